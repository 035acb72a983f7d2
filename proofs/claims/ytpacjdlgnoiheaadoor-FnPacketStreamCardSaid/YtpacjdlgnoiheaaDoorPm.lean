/- impl.MarkerBytes and impl.MarkerRead. -/
import Derived.Test.YtpacjdlgnoiheaaDoorPk
import Derived.Deep.RegionHeld3
namespace Go.Proofs.YtpacjdlgnoiheaaDoor.X
open Go.RowKit Go.Proofs.YtpacjdlgnoiheaaDoorW.PrintWords Go.Proofs.YtpacjdlgnoiheaaDoorW.PrintMore
attribute [local go_sem] setCell_drewN alloc_drewN
set_option linter.unusedVariables false

def markList (long : Bool) (k : Int) : List Int := if long then [0, 0, 0, 11, 12, 0, 0, 0, 1, 0, k] else [0, 11, 0, 0, 12, 0, 0, 0, 1, 0, k]
def RetBlkM (T : TypeId) (cs : Array Value) (w : World) (e : Ending) (w' : World) : Prop := ∃ g, e = .returned (.pointer (some ⟨g, 0, none⟩)) ∧ w'.heap[g]? = some (.cells cs T (0, 0)) ∧ w.heap.size ≤ g ∧ Below w.heap.size w w'
set_option maxHeartbeats 400000 in
theorem newMarker (k : Int) (x : Nat) (w : World) : Calls Tryd.prog 44 #[.int .u8 k, .pointer (some ⟨x, 0, none⟩)] w (RetBlkM 83 #[.int .u16 0, .int .u32 11, .int .u8 12, .int .u8 32, .pointer (some ⟨x, 0, none⟩), .int .u8 k] w) := by
  go_enter Tryd.func44, Tryd.ntmps44
  go_wp2
  go_ret
  exact ⟨_, rfl, xb_new _ _, Nat.le_refl _, (Below.refl _ _).alloc (Nat.le_refl _) _⟩
theorem row_lit (w : World) (l : List Int) (hl : l.length ≤ 140737488355328) : Kd.R (Kd.int .u8) 5 (w.alloc (.cells (nums .u8 l).toArray 5)) w.heap.size (fun _ => True) (.slice (some ⟨w.heap.size, 0, none⟩) l.length l.length) l :=
  Kd.R_of_own (own_lit w w.heap.size 5 .u8 l (Nat.le_refl _) (by omega)) (fun _ _ => trivial)
set_option maxHeartbeats 400000 in
theorem markerBytes (g x : Nat) (k ver : Int) (cpl : Bool) (w : World) (c4 : w.cell? ⟨g, 4, none⟩ = some (.pointer (some ⟨x, 0, none⟩))) (c5 : w.cell? ⟨g, 5, none⟩ = some (.int .u8 k))
    (x9 : w.cell? ⟨x, 9, none⟩ = some (.bool cpl)) (x2 : w.cell? ⟨x, 2, none⟩ = some (.int .u16 ver)) :
    Calls Tryd.prog 45 #[.pointer (some ⟨g, 0, none⟩)] w (RetRow (markList (cpl && decide (ver ≥ 315)) k) w) := by
  rcases (show (cpl = true ∧ 315 ≤ ver) ∨ cpl = false ∨ (cpl = true ∧ ¬ 315 ≤ ver) by cases cpl <;> by_cases h : 315 ≤ ver <;> simp [h]) with ⟨rfl, h⟩ | rfl | ⟨rfl, h⟩
  · have e : markList (true && decide (ver ≥ 315)) k = [0, 0, 0, 11, 12, 0, 0, 0, 1, 0, k] := by simp [markList, h]
    rw [e]; clear e
    go_enter Tryd.func45, Tryd.ntmps45
    go_wp2
    go_ret
    exact ⟨_, rfl, row_lit w [0, 0, 0, 11, 12, 0, 0, 0, 1, 0, k] (by simp), (Below.refl _ _).alloc (Nat.le_refl _) _⟩
  · have e : markList (false && decide (ver ≥ 315)) k = [0, 11, 0, 0, 12, 0, 0, 0, 1, 0, k] := by simp [markList]
    rw [e]; clear e
    go_enter Tryd.func45, Tryd.ntmps45
    go_wp2
    go_ret
    exact ⟨_, rfl, row_lit w [0, 11, 0, 0, 12, 0, 0, 0, 1, 0, k] (by simp), (Below.refl _ _).alloc (Nat.le_refl _) _⟩
  · have e : markList (true && decide (ver ≥ 315)) k = [0, 11, 0, 0, 12, 0, 0, 0, 1, 0, k] := by simp [markList, h]
    rw [e]; clear e
    go_enter Tryd.func45, Tryd.ntmps45
    go_wp2
    go_ret
    exact ⟨_, rfl, row_lit w [0, 11, 0, 0, 12, 0, 0, 0, 1, 0, k] (by simp), (Below.refl _ _).alloc (Nat.le_refl _) _⟩
set_option maxHeartbeats 400000 in
theorem netMarkerBytes (x : Nat) (k ver : Int) (cpl : Bool) (w : World) (x9 : w.cell? ⟨x, 9, none⟩ = some (.bool cpl)) (x2 : w.cell? ⟨x, 2, none⟩ = some (.int .u16 ver)) :
    Calls Tryd.prog 33 #[.pointer (some ⟨x, 0, none⟩), .int .u8 k] w (RetRow (markList (cpl && decide (ver ≥ 315)) k) w) := by
  have hM : Hid (∀ g W, Below w.heap.size w W → W.cell? ⟨g, 4, none⟩ = some (.pointer (some ⟨x, 0, none⟩)) → W.cell? ⟨g, 5, none⟩ = some (.int .u8 k) → Calls Tryd.prog 45 #[.pointer (some ⟨g, 0, none⟩)] W (RetRow (markList (cpl && decide (ver ≥ 315)) k) W)) :=
    Lib.hid fun g W hW c4 c5 => markerBytes g x k ver cpl W c4 c5 (bl_cell hW x9) (bl_cell hW x2)
  generalize markList (cpl && decide (ver ≥ 315)) k = l at *
  go_enter Tryd.func33, Tryd.ntmps33
  go_wp2_with fail
  refine (newMarker _ _ _).mono ?_
  rintro e w1 ⟨g, rfl, hb, hg, hB⟩
  have d4 := xb_cell hb 4
  have d5 := xb_cell hb 5
  have HB := Lib.hid hB
  clear hb hB
  go_wp2_with fail
  refine (hM.out g _ HB.out d4 d5).mono ?_
  rintro e w2 ⟨v, rfl, hR, hB2⟩
  have HR := Lib.hid hR
  have HB2 := Lib.hid hB2
  clear hR hB2
  go_wp2
  go_ret
  exact ⟨v, rfl, Kd.R_lower HR.out HB.out.size, bl_trans HB.out HB2.out⟩
def impl_MarkerBytes.f (a0 a1 a2 a3 a4 a5 a6 a7 a8 : Int) (a9 : Bool) (k : Int) : Option (List Int) := some (markList (a9 && decide (a0 ≥ 315)) k)
set_option maxHeartbeats 400000 in
theorem impl_MarkerBytes.calls (a0 a1 a2 a3 a4 a5 a6 a7 a8 : Int) (a9 : Bool) (k : Int) (r : List Int) (w : World) (h : impl_MarkerBytes.f a0 a1 a2 a3 a4 a5 a6 a7 a8 a9 k = some r) :
    Calls Tryd.prog 21 #[.agg #[.int .u16 a0, .int .u16 a1, .int .u16 a2, .int .u16 a3, .int .u16 a4, .int .u8 a5, .int .u8 a6, .int .u32 a7, .int .u32 a8, .bool a9], .int .u8 k] w fun e w' => ∃ v0_ : Value, e = .returned (v0_) ∧ Kd.R (Kd.int .u8) 5 w' w.heap.size (fun _ => True) v0_ r ∧ Below w.heap.size w w' := by
  show Calls Tryd.prog 21 _ w (RetRow r w)
  obtain rfl := Option.some.inj h
  clear h
  have hM : Hid (∀ x W, W.cell? ⟨x, 9, none⟩ = some (.bool a9) → W.cell? ⟨x, 2, none⟩ = some (.int .u16 a0) → Calls Tryd.prog 33 #[.pointer (some ⟨x, 0, none⟩), .int .u8 k] W (RetRow (markList (a9 && decide (a0 ≥ 315)) k) W)) :=
    Lib.hid fun x W x9 x2 => netMarkerBytes x k a0 a9 W x9 x2
  generalize markList (a9 && decide (a0 ≥ 315)) k = l at *
  go_enter Tryd.func21, Tryd.ntmps21
  go_wp2_with fail
  refine (contextOf a0 a1 a2 a3 a4 a5 a6 a7 a8 a9 _).mono ?_
  rintro e w1 ⟨x, rfl, hb, hx, hB⟩
  have d9 : w1.cell? ⟨x, 9, none⟩ = some (.bool a9) := xb_cell hb 9
  have d2 : w1.cell? ⟨x, 2, none⟩ = some (.int .u16 a0) := xb_cell hb 2
  have HB := Lib.hid (bl_trans ((Below.refl w.heap.size w).alloc (Nat.le_refl _) _) hB)
  clear hb hB
  go_wp2_with fail
  refine (hM.out x _ d9 d2).mono ?_
  rintro e w2 ⟨v, rfl, hR, hB2⟩
  have HR := Lib.hid hR
  have HB2 := Lib.hid hB2
  clear hR hB2
  go_wp2
  go_ret
  exact ⟨v, rfl, Kd.R_lower HR.out HB.out.size, bl_trans HB.out HB2.out⟩

/-! ### what is read -/
def RetNilB (w : World) (e : Ending) (w' : World) : Prop := e = .returned (.pointer none) ∧ Below w.heap.size w w'
set_option maxHeartbeats 400000 in
theorem markShort (A : Option Addr) (n c : Nat) (ctx : Value) (w : World) (hn : ¬ n = 11) : Calls Tryd.prog 46 #[.slice A n c, ctx] w (RetNilB w) := by
  have h1 : ((n : Int) == 11) = false := by rw [beq_eq_false_iff_ne]; omega
  have h2 : ((n : Int) != 11) = true := by rw [bne_iff_ne]; omega
  go_enter Tryd.func46, Tryd.ntmps46
  go_wp2
  go_ret
  exact ⟨rfl, Below.refl _ _⟩
set_option maxHeartbeats 1000000 in
theorem markOther (A : Option Addr) (c : Nat) (l : List Int) (x : Nat) (cpl : Bool) (ver : Int) (w : World) (hr : Kd.C (Kd.int .u8) w A l.length l) (hn : l.length = 11) (hb : Byt l) (h4 : ¬ l.getD 4 0 = 12)
    (x9 : w.cell? ⟨x, 9, none⟩ = some (.bool cpl)) (x2 : w.cell? ⟨x, 2, none⟩ = some (.int .u16 ver)) :
    Calls Tryd.prog 46 #[.slice A l.length c, .pointer (some ⟨x, 0, none⟩)] w (RetNilB w) := by
  obtain ⟨g, o, rfl, hg, hcell⟩ := C_base hr (by omega)
  have BE0 : Hid (∀ W, Below w.heap.size w W → Calls Tryd.prog 47 #[.agg #[], .slice (some ⟨g, o, none⟩) 11 c] W (Ret (.int .u16 (l.getD 0 0 * 256 + l.getD 1 0)) W)) := Lib.hid fun W hW => by rw [← hn]; exact be16 _ _ c _ W (Kd.C_below hr hW) (by omega) hb
  have BL0 : Hid (∀ W, Below w.heap.size w W → Calls Tryd.prog 49 #[.agg #[], .slice (some ⟨g, o, none⟩) 11 c] W (Ret (.int .u32 (((l.getD 0 0 * 256 + l.getD 1 0) * 256 + l.getD 2 0) * 256 + l.getD 3 0)) W)) := Lib.hid fun W hW => by rw [← hn]; exact be32 _ _ c _ W (Kd.C_below hr hW) (by omega) hb
  have c4 := hcell 4 (by omega)
  have c5 := hcell 5 (by omega)
  have c10 := hcell 10 (by omega)
  have hv : 0 ≤ l.getD 0 0 * 256 + l.getD 1 0 ∧ l.getD 0 0 * 256 + l.getD 1 0 ≤ 65535 := by have := hb.get 0; have := hb.get 1; omega
  obtain ⟨v16, e16⟩ : ∃ v, v = l.getD 0 0 * 256 + l.getD 1 0 := ⟨_, rfl⟩
  obtain ⟨v32, e32⟩ : ∃ v, v = ((l.getD 0 0 * 256 + l.getD 1 0) * 256 + l.getD 2 0) * 256 + l.getD 3 0 := ⟨_, rfl⟩
  obtain ⟨len, hlen⟩ : ∃ y, y = lenOf (longOf cpl ver) l := ⟨_, rfl⟩
  have hcase : (len = v32 ∧ cpl = true ∧ 315 ≤ ver) ∨ (len = v16 ∧ cpl = false) ∨ (len = v16 ∧ cpl = true ∧ ¬ 315 ≤ ver) := by
    cases cpl
    · exact .inr (.inl ⟨by rw [hlen, e16]; rfl, rfl⟩)
    · by_cases hv3 : 315 ≤ ver
      · exact .inl ⟨by rw [hlen, e32]; simp [lenOf, longOf, hv3], rfl, hv3⟩
      · exact .inr (.inr ⟨by rw [hlen, e16]; simp [lenOf, longOf, hv3], rfl, hv3⟩)
  rw [hn]
  (try rw [← hlen])
  rw [← e16] at BE0 hv
  rw [← e32] at BL0
  generalize l.getD 4 0 = y4 at *
  have t1 : (y4 == 12) = false := by simp [h4]
  have t2 : (y4 != 12) = true := by simp [h4]
  generalize l.getD 5 0 = y5 at *
  generalize l.getD 10 0 = y10 at *
  obtain ⟨hv0, hv1⟩ := hv
  have HW32 := Lib.hid (u32_wrap_id v16 hv0 (by omega))
  clear hlen e16 e32 hb hr hcell hn
  have h1 : ((11 : Int) == 11) = true := by decide
  rcases hcase with ⟨rfl, rfl, h315⟩ | ⟨rfl, rfl⟩ | ⟨rfl, rfl, h315⟩
  all_goals
    go_enter Tryd.func46, Tryd.ntmps46
    go_wp2_with fail
    go_region_held3 (fun w' => w'.cell? ⟨g, o + 4, none⟩ = some (.int .u8 y4) ∧ w'.cell? ⟨g, o + 5, none⟩ = some (.int .u8 y5) ∧ w'.cell? ⟨g, o + 10, none⟩ = some (.int .u8 y10)) (first | exact ⟨c4, c5, c10⟩ | exact ⟨cell_alloc _ c4, cell_alloc _ c5, cell_alloc _ c10⟩) (fail)
    have hWA : Below w.heap.size w (w.alloc (.cells #[.int .u16 0, .int .u32 0, .int .u8 y4, .int .u8 y5, .pointer (some ⟨x, 0, none⟩), .int .u8 y10] 83)).drew := bl_trans ((Below.refl _ _).alloc (Nat.le_refl _) _) (bl_drewN _ 1)
    have X9 := bl_cell hWA x9
    have X2 := bl_cell hWA x2
    have HWA := Lib.hid hWA
    clear hWA c4 c5 c10
    go_wp2_with fail
    (first | (go_at_call 49; refine (BL0.out _ HWA.out).mono ?_) | (go_at_call 47; refine (BE0.out _ HWA.out).mono ?_))
    rintro e w4 ⟨rfl, hb4⟩
    have b4 := blk_bl (w := (w.alloc (.cells #[.int .u16 0, .int .u32 0, .int .u8 y4, .int .u8 y5, .pointer (some ⟨x, 0, none⟩), .int .u8 y10] 83)).drew) (xb_new w _) hb4 (by simp)
    have d1 := xb_cell b4 1
    have d2 := xb_cell b4 2
    have f1 := blk_free b4 1
    have Hb4 := Lib.hid b4
    have HB4 := Lib.hid hb4
    clear b4 hb4 BE0 BL0
    (try have hw32 := HW32.out)
    go_wp2
    go_ret
    exact ⟨rfl, (bl_trans HWA.out HB4.out).setCell (Nat.le_refl _) _⟩
set_option maxHeartbeats 1000000 in
theorem markOk (A : Option Addr) (c : Nat) (l : List Int) (x : Nat) (cpl : Bool) (ver : Int) (w : World) (hr : Kd.C (Kd.int .u8) w A l.length l) (hn : l.length = 11) (hb : Byt l) (h4 : l.getD 4 0 = 12)
    (x9 : w.cell? ⟨x, 9, none⟩ = some (.bool cpl)) (x2 : w.cell? ⟨x, 2, none⟩ = some (.int .u16 ver)) :
    Calls Tryd.prog 46 #[.slice A l.length c, .pointer (some ⟨x, 0, none⟩)] w (RetBlkM 83 #[.int .u16 0, .int .u32 (lenOf (longOf cpl ver) l), .int .u8 12, .int .u8 (l.getD 5 0), .pointer (some ⟨x, 0, none⟩), .int .u8 (l.getD 10 0)] w) := by
  obtain ⟨g, o, rfl, hg, hcell⟩ := C_base hr (by omega)
  have BE0 : Hid (∀ W, Below w.heap.size w W → Calls Tryd.prog 47 #[.agg #[], .slice (some ⟨g, o, none⟩) 11 c] W (Ret (.int .u16 (l.getD 0 0 * 256 + l.getD 1 0)) W)) := Lib.hid fun W hW => by rw [← hn]; exact be16 _ _ c _ W (Kd.C_below hr hW) (by omega) hb
  have BL0 : Hid (∀ W, Below w.heap.size w W → Calls Tryd.prog 49 #[.agg #[], .slice (some ⟨g, o, none⟩) 11 c] W (Ret (.int .u32 (((l.getD 0 0 * 256 + l.getD 1 0) * 256 + l.getD 2 0) * 256 + l.getD 3 0)) W)) := Lib.hid fun W hW => by rw [← hn]; exact be32 _ _ c _ W (Kd.C_below hr hW) (by omega) hb
  have c4 := hcell 4 (by omega)
  have c5 := hcell 5 (by omega)
  have c10 := hcell 10 (by omega)
  have hv : 0 ≤ l.getD 0 0 * 256 + l.getD 1 0 ∧ l.getD 0 0 * 256 + l.getD 1 0 ≤ 65535 := by have := hb.get 0; have := hb.get 1; omega
  obtain ⟨v16, e16⟩ : ∃ v, v = l.getD 0 0 * 256 + l.getD 1 0 := ⟨_, rfl⟩
  obtain ⟨v32, e32⟩ : ∃ v, v = ((l.getD 0 0 * 256 + l.getD 1 0) * 256 + l.getD 2 0) * 256 + l.getD 3 0 := ⟨_, rfl⟩
  obtain ⟨len, hlen⟩ : ∃ y, y = lenOf (longOf cpl ver) l := ⟨_, rfl⟩
  have hcase : (len = v32 ∧ cpl = true ∧ 315 ≤ ver) ∨ (len = v16 ∧ cpl = false) ∨ (len = v16 ∧ cpl = true ∧ ¬ 315 ≤ ver) := by
    cases cpl
    · exact .inr (.inl ⟨by rw [hlen, e16]; rfl, rfl⟩)
    · by_cases hv3 : 315 ≤ ver
      · exact .inl ⟨by rw [hlen, e32]; simp [lenOf, longOf, hv3], rfl, hv3⟩
      · exact .inr (.inr ⟨by rw [hlen, e16]; simp [lenOf, longOf, hv3], rfl, hv3⟩)
  rw [hn]
  (try rw [← hlen])
  rw [← e16] at BE0 hv
  rw [← e32] at BL0
  obtain ⟨y4, hy4⟩ : ∃ y, y = l.getD 4 0 := ⟨_, rfl⟩
  rw [← hy4] at h4 c4
  clear hy4
  subst h4
  generalize l.getD 5 0 = y5 at *
  generalize l.getD 10 0 = y10 at *
  obtain ⟨hv0, hv1⟩ := hv
  have HW32 := Lib.hid (u32_wrap_id v16 hv0 (by omega))
  clear hlen e16 e32 hb hr hcell hn
  have h1 : ((11 : Int) == 11) = true := by decide
  rcases hcase with ⟨rfl, rfl, h315⟩ | ⟨rfl, rfl⟩ | ⟨rfl, rfl, h315⟩
  all_goals
    go_enter Tryd.func46, Tryd.ntmps46
    go_wp2_with fail
    go_region_held3 (fun w' => w'.cell? ⟨g, o + 4, none⟩ = some (.int .u8 12) ∧ w'.cell? ⟨g, o + 5, none⟩ = some (.int .u8 y5) ∧ w'.cell? ⟨g, o + 10, none⟩ = some (.int .u8 y10)) (first | exact ⟨c4, c5, c10⟩ | exact ⟨cell_alloc _ c4, cell_alloc _ c5, cell_alloc _ c10⟩) (fail)
    have hWA : Below w.heap.size w (w.alloc (.cells #[.int .u16 0, .int .u32 0, .int .u8 12, .int .u8 y5, .pointer (some ⟨x, 0, none⟩), .int .u8 y10] 83)).drew := bl_trans ((Below.refl _ _).alloc (Nat.le_refl _) _) (bl_drewN _ 1)
    have X9 := bl_cell hWA x9
    have X2 := bl_cell hWA x2
    have HWA := Lib.hid hWA
    clear hWA c4 c5 c10
    go_wp2_with fail
    (first | (go_at_call 49; refine (BL0.out _ HWA.out).mono ?_) | (go_at_call 47; refine (BE0.out _ HWA.out).mono ?_))
    rintro e w4 ⟨rfl, hb4⟩
    have b4 := blk_bl (w := (w.alloc (.cells #[.int .u16 0, .int .u32 0, .int .u8 12, .int .u8 y5, .pointer (some ⟨x, 0, none⟩), .int .u8 y10] 83)).drew) (xb_new w _) hb4 (by simp)
    have d1 := xb_cell b4 1
    have d2 := xb_cell b4 2
    have f1 := blk_free b4 1
    have Hb4 := Lib.hid b4
    have HB4 := Lib.hid hb4
    clear b4 hb4 BE0 BL0
    (try have hw32 := HW32.out)
    go_wp2
    go_ret
    exact ⟨_, rfl, xb_set Hb4.out 1 _, Nat.le_refl _, (bl_trans HWA.out HB4.out).setCell (Nat.le_refl _) _⟩
end Go.Proofs.YtpacjdlgnoiheaaDoor.X
