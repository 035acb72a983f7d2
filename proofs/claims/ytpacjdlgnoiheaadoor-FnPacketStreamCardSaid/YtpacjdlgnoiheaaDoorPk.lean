/- Contracts of the functions of packets that the print does not take: what each call returns, and that nothing that lay there before has turned. -/
import Derived.Test.YtpacjdlgnoiheaaDoorProg
import Derived.Test.YtpacjdlgnoiheaaDoorKit
namespace Go.Proofs.YtpacjdlgnoiheaaDoor.X
open Go.RowKit Go.Proofs.YtpacjdlgnoiheaaDoorW.PrintWords Go.Proofs.YtpacjdlgnoiheaaDoorW.PrintMore
attribute [local go_sem] setCell_drewN alloc_drewN

/-! ### binary.BigEndian: what is read -/
def Ret (v : Value) (w : World) (e : Ending) (w' : World) : Prop := e = .returned v ∧ Below w.heap.size w w'
set_option maxHeartbeats 400000 in
theorem be16 (A : Option Addr) (n c : Nat) (l : List Int) (w : World) (hr : Kd.C (Kd.int .u8) w A n l) (hn : 2 ≤ n) (hb : Byt l) :
    Calls Tryd.prog 47 #[.agg #[], .slice A n c] w (Ret (.int .u16 (l.getD 0 0 * 256 + l.getD 1 0)) w) := by
  obtain ⟨g, o, rfl, hg, hc⟩ := C_base hr (by omega)
  have c0 := hc 0 (by omega)
  rw [Nat.add_zero] at c0
  have c1 := hc 1 (by omega)
  obtain ⟨h00, h01⟩ := hb.get 0
  obtain ⟨h10, h11⟩ := hb.get 1
  clear hc hr hb
  generalize l.getD 0 0 = x at *
  generalize l.getD 1 0 = y at *
  have i0 : 0 < n := by omega
  have i1 : (1 : Int) < (n : Int) := by omega
  go_enter Tryd.func47, Tryd.ntmps47
  go_wp2
  go_quiet (fail)
  go_wp2
  go_ret
  refine ⟨ret_eq ?_, bl_trans ((Below.refl _ _).alloc (Nat.le_refl _) _) (bl_drewN _ _)⟩
  show Value.int .u16 (bits .or .u16 y (x * 256)) = _
  rw [u16_or8 y (x * 256) (by omega) (by omega) (by omega) (by omega) (by omega), Int.add_comm]

set_option maxHeartbeats 400000 in
theorem be32 (A : Option Addr) (n c : Nat) (l : List Int) (w : World) (hr : Kd.C (Kd.int .u8) w A n l) (hn : 4 ≤ n) (hb : Byt l) :
    Calls Tryd.prog 49 #[.agg #[], .slice A n c] w (Ret (.int .u32 (((l.getD 0 0 * 256 + l.getD 1 0) * 256 + l.getD 2 0) * 256 + l.getD 3 0)) w) := by
  obtain ⟨g, o, rfl, hg, hc⟩ := C_base hr (by omega)
  have c0 := hc 0 (by omega)
  rw [Nat.add_zero] at c0
  have c1 := hc 1 (by omega)
  have c2 := hc 2 (by omega)
  have c3 := hc 3 (by omega)
  obtain ⟨h00, h01⟩ := hb.get 0
  obtain ⟨h10, h11⟩ := hb.get 1
  obtain ⟨h20, h21⟩ := hb.get 2
  obtain ⟨h30, h31⟩ := hb.get 3
  clear hc hr hb
  generalize l.getD 0 0 = x at *
  generalize l.getD 1 0 = y at *
  generalize l.getD 2 0 = z at *
  generalize l.getD 3 0 = u at *
  have i0 : 0 < n := by omega
  have i1 : (1 : Int) < (n : Int) := by omega
  have i2 : (2 : Int) < (n : Int) := by omega
  have i3 : (3 : Int) < (n : Int) := by omega
  go_enter Tryd.func49, Tryd.ntmps49
  go_wp2
  go_quiet (fail)
  go_wp2
  go_ret
  refine ⟨ret_eq ?_, bl_trans ((Below.refl _ _).alloc (Nat.le_refl _) _) (bl_drewN _ _)⟩
  show Value.int .u32 (bits .or .u32 (bits .or .u32 (bits .or .u32 u (z * 256)) (y * 65536)) (x * 16777216)) = _
  rw [u32_or8 u (z * 256) (by omega) (by omega) (by omega) (by omega) (by omega), u32_or16 (u + z * 256) (y * 65536) (by omega) (by omega) (by omega) (by omega) (by omega), u32_or24 (u + z * 256 + y * 65536) (x * 16777216) (by omega) (by omega) (by omega) (by omega) (by omega)]
  congr 1
  omega

/-- The number in the first two or four bytes. -/
def lenOf (long : Bool) (l : List Int) : Int := if long then ((l.getD 0 0 * 256 + l.getD 1 0) * 256 + l.getD 2 0) * 256 + l.getD 3 0 else l.getD 0 0 * 256 + l.getD 1 0
def longOf (cpl : Bool) (ver : Int) : Bool := cpl && decide (ver ≥ 315)
/-! ### a context -/
set_option maxHeartbeats 400000 in
theorem ctxComplete (g : Nat) (cs : Array Value) (b x : Bool) (w : World) (hb : w.heap[g]? = some (.cells cs 91 (0, 0))) (hs : cs[9]? = some (.bool x)) :
    Calls Tryd.prog 39 #[.pointer (some ⟨g, 0, none⟩), .bool b] w fun e w' => e = .returned (.tuple #[]) ∧ w' = w.setCell ⟨g, 9, none⟩ (.bool b) := by
  have c9 : w.cell? ⟨g, 9, none⟩ = some (.bool x) := by simp [World.cell?, hb, hs]
  have f9 : w.frozen? ⟨g, 9, none⟩ = false := by simp [World.frozen?, hb]
  clear hb hs
  go_enter Tryd.func39, Tryd.ntmps39
  go_wp2
  go_end0
  exact ⟨rfl, rfl⟩
def ctxCells (cd : ByteArray) (a0 a1 a2 a3 a4 a5 a6 a7 a8 : Int) (a9 : Bool) : Array Value :=
  #[.slice none 0 0, .string cd, .int .u16 a0, .int .u16 a1, .int .u16 a2, .int .u16 0, .int .u16 a3, .int .u16 a4, .string ⟨#[]⟩, .bool a9, .int .u8 a5, .int .u8 a6, .int .u32 a7, .int .u32 a8, .bool false, .bool false, .bool false, .bool false]
def RetCtx (cs : Array Value) (w : World) (e : Ending) (w' : World) : Prop :=
  ∃ g, e = .returned (.pointer (some ⟨g, 0, none⟩)) ∧ w'.heap[g]? = some (.cells cs 91 (0, 0)) ∧ w.heap.size ≤ g ∧ Below w.heap.size w w'
set_option maxHeartbeats 400000 in
theorem contextOf (a0 a1 a2 a3 a4 a5 a6 a7 a8 : Int) (a9 : Bool) (w : World) :
    Calls Tryd.prog 28 #[.agg #[.int .u16 a0, .int .u16 a1, .int .u16 a2, .int .u16 a3, .int .u16 a4, .int .u8 a5, .int .u8 a6, .int .u32 a7, .int .u32 a8, .bool a9]] w (RetCtx (ctxCells ⟨#[]⟩ a0 a1 a2 a3 a4 a5 a6 a7 a8 a9) w) := by
  go_enter Tryd.func28, Tryd.ntmps28
  go_wp2_with fail
  refine (ctxComplete _ _ _ false _ (heap_alloc2_new _ _ _) rfl).mono ?_
  rintro e w1 ⟨rfl, rfl⟩
  go_wp2
  go_ret
  refine ⟨w.heap.size + 1, rfl, ?_, by omega, ?_⟩
  · exact heap_alloc2_new _ _ _
  · exact ((Below.refl _ _).alloc (Nat.le_refl _) _).alloc (by simp) _

/-! ### the head of a packet -/
def RetHead (len ty fl off : Int) (w : World) (e : Ending) (w' : World) : Prop := e = .returned (.tuple #[.int .u32 len, .int .u8 ty, .int .u8 fl, .int .u16 off]) ∧ Drawn0 w w'
set_option maxHeartbeats 400000 in
theorem packetHead (g : Nat) (len ty fl off : Int) (w : World) (c0 : w.cell? ⟨g, 0, none⟩ = some (.int .u16 off)) (c1 : w.cell? ⟨g, 1, none⟩ = some (.int .u32 len)) (c2 : w.cell? ⟨g, 2, none⟩ = some (.int .u8 ty)) (c3 : w.cell? ⟨g, 3, none⟩ = some (.int .u8 fl)) :
    Calls Tryd.prog 37 #[.pointer (some ⟨g, 0, none⟩)] w (RetHead len ty fl off w) := by
  go_enter Tryd.func37, Tryd.ntmps37
  go_wp2
  go_quiet (fail)
  go_wp2
  refine bodyPost_ret (results_list (rs := [.tmp 2, .tmp 3, .tmp 4, .tmp 5]) rfl (by simp) (.tmp (.tmp (.tmp (.tmp .nil))))) rfl ?_
  exact ⟨rfl, ⟨_, rfl⟩⟩
set_option maxHeartbeats 400000 in
theorem headOf (g : Nat) (len ty fl off : Int) (w : World) (c0 : w.cell? ⟨g, 0, none⟩ = some (.int .u16 off)) (c1 : w.cell? ⟨g, 1, none⟩ = some (.int .u32 len)) (c2 : w.cell? ⟨g, 2, none⟩ = some (.int .u8 ty)) (c3 : w.cell? ⟨g, 3, none⟩ = some (.int .u8 fl)) :
    Calls Tryd.prog 26 #[.pointer (some ⟨g, 0, none⟩)] w (Ret (.agg #[.int .u32 len, .int .u8 ty, .int .u8 fl, .int .u16 off]) w) := by
  have hg := World.block_lt_of_cell? w _ c0
  simp only at hg
  go_enter Tryd.func26, Tryd.ntmps26
  go_wp2_with fail
  refine (packetHead g len ty fl off _ (by go_simp) (by go_simp) (by go_simp) (by go_simp)).mono ?_
  rintro e w1 ⟨rfl, ⟨n, rfl⟩⟩
  go_wp2
  refine bodyPost_ret (results_cell_row rfl _ _ w.heap.size 28 #[.int .u32 len, .int .u8 ty, .int .u8 fl, .int .u16 off] (0, 0) _ rfl (heap_alloc_new _ _) Tryd.underlying28 rfl (by kernel_rfl)) rfl ?_
  exact ⟨rfl, bl_trans ((Below.refl _ _).alloc (Nat.le_refl _) _) (bl_drewN _ _)⟩

theorem info5x : (Tryd.prog.info? 5).map (fun i => (i.zero, i.size, i.bytes)) = some (some (.int .u8 0), 1, 1) := by kernel_rfl
def bytes_Clone.f (l0 : List Int) : Option (List Int) := if l0.length < 140737488355328 then some l0 else none
def RetRow (l : List Int) (w : World) (e : Ending) (w' : World) : Prop := ∃ v : Value, e = .returned v ∧ Kd.R (Kd.int .u8) 5 w' w.heap.size (fun _ => True) v l ∧ Below w.heap.size w w'
set_option maxHeartbeats 400000 in
theorem bytes_Clone.calls (A0 : Option Addr) (c0 : Nat) (l0 : List Int) (r : List Int) (w : World) (hr0 : Kd.C (Kd.int .u8) w A0 l0.length l0) (hc0 : l0.length ≤ c0) (h : bytes_Clone.f l0 = some r) :
    Calls Tryd.prog 12 #[.slice A0 l0.length c0] w fun e w' => ∃ v0_ : Value, e = .returned (v0_) ∧ Kd.R (Kd.int .u8) 5 w' w.heap.size (fun _ => True) v0_ r ∧ Below w.heap.size w w' := by
  show Calls Tryd.prog 12 #[.slice A0 l0.length c0] w (RetRow r w)
  have k1 := @Lib.run_eql_slice_nil Tryd.prog
  unfold bytes_Clone.f at h
  split at h
  · rename_i hlt
    obtain rfl := Option.some.inj h
    have HR0 := Aside0.mk hr0
    clear hr0 h
    cases A0 with
    | none =>
      have hl : l0 = [] := by
        rcases l0 with _ | ⟨x, l⟩
        · rfl
        · obtain ⟨ad, e, _⟩ := HR0.out.2.2 (by simp); cases e
      subst hl
      go_enter Tryd.func12, Tryd.ntmps12
      go_wp2
      go_ret
      exact ⟨_, rfl, Kd.R_nil _ _ _ _ _, Below.refl _ _⟩
    | some ad =>
      go_enter Tryd.func12, Tryd.ntmps12
      go_wp2_with (first | (refine Kd.R_lit (Kd.int .u8) _ 5 ?hg (N := 5) ?hd (xs := ([] : List Int)) (inner := []) (ok := fun _ => True) (okp := fun _ => True) ?hr ?hp (fun _ hk => hk) trivial (Below.refl _ _) (Nat.le_refl _) (by simp) ?_; (case hd => rfl); (case hg => rfl); (case hr => first | (go_simp; done) | (go_simp; rfl)); (case hp => exact (Reps.none _ _)); intro v253 w3 ho4 hb hg_ hnew_; clear hg_ hnew_; have HO := Aside0.mk ho4; have HB := Aside0.mk hb; clear ho4 hb) | (at_builtin; refine Kd.R_append_rows (Kd.int .u8) (w0 := w) w.heap.size rfl (.tmp 5) (.tmp 6) 24 5 (.int .u8 0) 1 rfl Tryd.underlying24 info5x rfl (by decide) (by omega) v253 [] l0 _ _ _ (fun _ => True) (fun _ => False) rfl rfl ?aO ?aR (fun _ _ h => h) (fun _ h => h.elim) ?aF ?aB ?aS ?aL ?_; (case aR => exact (Kd.C_below HR0.out HB.out)); (case aB => exact HB.out); (case aF => exact (fun _ _ => trivial)); (case aO => exact HO.out); (case aS => exact HB.out.size); (case aL => simp only [List.length_nil]; omega); intro v256 w5 ho hb hg hat; have HO2 := Aside0.mk ho; have HB2 := Aside0.mk hb; clear ho hb hg hat))
      go_ret
      exact ⟨_, rfl, HO2.out, HB2.out⟩
  · cases h

/-- A new error. -/
def RetErr (w : World) (e : Ending) (w' : World) : Prop := ∃ g, e = .returned (.iface 111 (.pointer (some ⟨g, 0, none⟩))) ∧ Below w.heap.size w w'
set_option maxHeartbeats 400000 in
theorem errorsNew (s : ByteArray) (w : World) : Calls Tryd.prog 48 #[.string s] w (RetErr w) := by
  go_enter Tryd.func48, Tryd.ntmps48
  go_wp2
  go_ret
  exact ⟨_, rfl, (Below.refl _ _).alloc (Nat.le_refl _) _⟩

/-- What is written into a block: the block; all others are as they were. -/
def RetPut (g : Nat) (T : TypeId) (cs : Array Value) (w : World) (e : Ending) (w' : World) : Prop := e = .returned (.tuple #[]) ∧ w'.heap[g]? = some (.cells cs T (0, 0)) ∧ w.grownBy w' (some g)
set_option maxHeartbeats 400000 in
theorem put16 (g o n c : Nat) (v : Int) (T : TypeId) (cs : Array Value) (w : World) (hb : w.heap[g]? = some (.cells cs T (0, 0))) (hn : 2 ≤ n) (ho : o + 2 ≤ cs.size) (h0 : 0 ≤ v) (h1 : v ≤ 65535) :
    Calls Tryd.prog 51 #[.agg #[], .slice (some ⟨g, o, none⟩) n c, .int .u16 v] w (RetPut g T ((cs.setIfInBounds o (.int .u8 (v / 256))).setIfInBounds (o + 1) (.int .u8 (v % 256))) w) := by
  have hg := xb_lt hb
  obtain ⟨x0, e0⟩ : ∃ x, cs[o]? = some x := ⟨_, Array.getElem?_eq_getElem (by omega)⟩
  obtain ⟨x1, e1⟩ : ∃ x, cs[o + 1]? = some x := ⟨_, Array.getElem?_eq_getElem (by omega)⟩
  have c0 := (xb_cell hb o).trans e0
  have c1 := (xb_cell hb (o + 1)).trans e1
  have f0 := blk_free hb o
  have f1 := blk_free hb (o + 1)
  have i0 : 0 < n := by omega
  have i1 : (1 : Int) < (n : Int) := by omega
  have HB := Lib.hid hb
  clear hb e0 e1 ho
  go_enter Tryd.func51, Tryd.ntmps51
  go_wp2
  go_end0
  exact ⟨rfl, xb_alloc (xb_set (xb_set HB.out _ _) _ _), grown_alloc (grown_set (grown_set (grown_refl _ _))) _⟩

set_option maxHeartbeats 400000 in
theorem put32 (g o n c : Nat) (v : Int) (T : TypeId) (cs : Array Value) (w : World) (hb : w.heap[g]? = some (.cells cs T (0, 0))) (hn : 4 ≤ n) (ho : o + 4 ≤ cs.size) (h0 : 0 ≤ v) (h1 : v ≤ 4294967295) :
    Calls Tryd.prog 55 #[.agg #[], .slice (some ⟨g, o, none⟩) n c, .int .u32 v] w (RetPut g T ((((cs.setIfInBounds o (.int .u8 (v / 16777216))).setIfInBounds (o + 1) (.int .u8 (v / 65536 % 256))).setIfInBounds (o + 2) (.int .u8 (v / 256 % 256))).setIfInBounds (o + 3) (.int .u8 (v % 256))) w) := by
  have hg := xb_lt hb
  obtain ⟨x0, e0⟩ : ∃ x, cs[o]? = some x := ⟨_, Array.getElem?_eq_getElem (by omega)⟩
  obtain ⟨x1, e1⟩ : ∃ x, cs[o + 1]? = some x := ⟨_, Array.getElem?_eq_getElem (by omega)⟩
  obtain ⟨x2, e2⟩ : ∃ x, cs[o + 2]? = some x := ⟨_, Array.getElem?_eq_getElem (by omega)⟩
  obtain ⟨x3, e3⟩ : ∃ x, cs[o + 3]? = some x := ⟨_, Array.getElem?_eq_getElem (by omega)⟩
  have c0 := (xb_cell hb o).trans e0
  have c1 := (xb_cell hb (o + 1)).trans e1
  have c2 := (xb_cell hb (o + 2)).trans e2
  have c3 := (xb_cell hb (o + 3)).trans e3
  have f2 := blk_free hb (o + 2)
  have f3 := blk_free hb (o + 3)
  have i2 : (2 : Int) < (n : Int) := by omega
  have i3 : (3 : Int) < (n : Int) := by omega
  have f0 := blk_free hb o
  have f1 := blk_free hb (o + 1)
  have i0 : 0 < n := by omega
  have i1 : (1 : Int) < (n : Int) := by omega
  have HB := Lib.hid hb
  clear hb e0 e1 e2 e3 ho
  go_enter Tryd.func55, Tryd.ntmps55
  go_wp2
  go_end0
  exact ⟨rfl, xb_alloc (xb_set (xb_set (xb_set (xb_set HB.out _ _) _ _) _ _) _ _), grown_alloc (grown_set (grown_set (grown_set (grown_set (grown_refl _ _))))) _⟩

end Go.Proofs.YtpacjdlgnoiheaaDoor.X
