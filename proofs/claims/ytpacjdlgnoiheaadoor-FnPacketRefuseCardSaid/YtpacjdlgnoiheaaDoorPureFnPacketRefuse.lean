/- The law FnPacketRefuse: its walk, over the contracts of what it calls. -/
import Derived.Test.YtpacjdlgnoiheaaDoorPr
import Derived.Test.YtpacjdlgnoiheaaDoorPw
import Derived.Test.YtpacjdlgnoiheaaDoorPp
import Derived.Test.YtpacjdlgnoiheaaDoorPf
namespace Go.Proofs.YtpacjdlgnoiheaaDoor.X
open Go Go.RowKit Go.Proofs.YtpacjdlgnoiheaaDoorW.PrintWords Go.Proofs.YtpacjdlgnoiheaaDoorW.PrintLast Go.Proofs.YtpacjdlgnoiheaaDoorW.PrintMore
attribute [local go_sem] setCell_drewN alloc_drewN
set_option linter.unusedVariables false
theorem w64_in' (n : Int) (h : -9223372036854775808 ≤ n ∧ n ≤ 9223372036854775807) : wrap64 n = n := by unfold wrap64; omega
theorem put_step (k : Nat) (l : List Int) (a n i : Nat) (v : Int) (hi : i < n) (hn : n ≤ 8) (hl : a + n ≤ l.length) (hm : l.length ≤ 140737488355328) :
    spec_packetPut.l0 (k + 1) l (a : Int) (n : Int) v (i : Int) = spec_packetPut.l0 k (l.set (a + i) (v / 2 ^ (8 * (n - 1 - i)) % 256)) (a : Int) (n : Int) v ((i + 1 : Nat) : Int) := by
  have w1 : wrap64 ((n : Int) - 1) = (n : Int) - 1 := w64_in' _ (by omega)
  have w2 : wrap64 ((n : Int) - 1 - (i : Int)) = (n : Int) - 1 - i := w64_in' _ (by omega)
  have w3 : wrap64 (8 * ((n : Int) - 1 - i)) = ((8 * (n - 1 - i) : Nat) : Int) := by rw [w64_in' _ (by omega)]; omega
  have w4 : wrap64 ((a : Int) + i) = ((a + i : Nat) : Int) := by rw [w64_in' _ (by omega)]; omega
  have w5 : wrap64 ((i : Int) + 1) = ((i + 1 : Nat) : Int) := by rw [w64_in' _ (by omega)]; omega
  have hs : shr .u64 v ((8 * (n - 1 - i) : Nat) : Int) = v / 2 ^ (8 * (n - 1 - i)) := by
    unfold shr
    rw [Int.toNat_natCast, Nat.min_eq_left (by show _ ≤ 64; omega)]
  conv => lhs; unfold spec_packetPut.l0
  rw [if_pos (by omega), w1, w2, w3, w4, w5, hs, if_pos (by omega), if_pos (by omega), if_pos (by omega), Int.toNat_natCast]
theorem put_end (k : Nat) (l : List Int) (a n : Nat) (v : Int) : spec_packetPut.l0 (k + 1) l (a : Int) (n : Int) v (n : Int) = some l := by
  unfold spec_packetPut.l0
  rw [if_neg (by omega)]
theorem put2 (k : Nat) (l : List Int) (a : Nat) (v : Int) (hl : a + 2 ≤ l.length) (hm : l.length ≤ 140737488355328) (h0 : 0 ≤ v) (h1 : v ≤ 65535) :
    spec_packetPut.f (k + 3) l (a : Int) 2 v = some ((l.set a (v / 256)).set (a + 1) (v % 256)) := by
  have e := put_step (k + 2) l a 2 0 v (by omega) (by omega) hl hm
  have e2 := put_step (k + 1) (l.set (a + 0) (v / 2 ^ (8 * (2 - 1 - 0)) % 256)) a 2 1 v (by omega) (by omega) (by rw [List.length_set]; exact hl) (by rw [List.length_set]; exact hm)
  have e3 := put_end k ((l.set (a + 0) (v / 2 ^ (8 * (2 - 1 - 0)) % 256)).set (a + 1) (v / 2 ^ (8 * (2 - 1 - 1)) % 256)) a 2 v
  refine (e.trans (e2.trans e3)).trans ?_
  have f1 : v / 2 ^ (8 * (2 - 1 - 0)) % 256 = v / 256 := by show v / 256 % 256 = _; omega
  have f2 : v / 2 ^ (8 * (2 - 1 - 1)) % 256 = v % 256 := by show v / 1 % 256 = _; omega
  rw [f1, f2, Nat.add_zero]
/-- What a PutUint of the reference leaves: the row, of the call's own. -/
def RetOwn (B : Nat) (w0 : World) (v : Value) (l : List Int) (e : Ending) (w' : World) : Prop := e = .returned (.tuple #[]) ∧ Kd.R (Kd.int .u8) 5 w' B (fun _ => True) v l ∧ Below B w0 w'
theorem put2_calls (w0 w : World) (v : Value) (l : List Int) (a : Nat) (x : Int) (hB : Below w0.heap.size w0 w) (hR : Kd.R (Kd.int .u8) 5 w w0.heap.size (fun _ => True) v l) (hl : a + 2 ≤ l.length) (hm : l.length ≤ 140737488355328) (h0 : 0 ≤ x) (h1 : x ≤ 65535) :
    Calls Tryd.prog 24 #[v, .int .i64 (a : Int), .int .i64 2, .int .u64 x] w (RetOwn w0.heap.size w0 v ((l.set a (x / 256)).set (a + 1) (x % 256))) :=
  (spec_packetPut.calls 3 (fun _ => True) v l a 2 x _ w0 w hB hR (put2 0 l a x hl hm h0 h1)).mono fun e w' ⟨h1, h2, h3, _⟩ => ⟨h1, Kd.R_mono h2 (fun _ _ => trivial), h3⟩
def refuseList (len u s : Int) (m : ByteArray) : List Int := [len / 256, len % 256, 0, 0, 4, 0, 0, 0, u, s, (m.size : Int) / 256, (m.size : Int) % 256] ++ bytesOf m
set_option maxRecDepth 100000 in
set_option maxHeartbeats 2000000 in
theorem specRefuse (len u s : Int) (m : ByteArray) (w : World) (h0 : 0 ≤ len) (h1 : len ≤ 65535) (hm : m.size ≤ 2000) :
    Calls Tryd.prog 10 #[.int .u16 len, .int .u8 u, .int .u8 s, .string m] w (RetRow (refuseList len u s m) w) := by
  have e1 : IntKind.u64.wrap len = len := u64_wrap_id _ (by omega) (by omega)
  have e2 : IntKind.u64.wrap (m.size : Int) = (m.size : Int) := u64_wrap_id _ (by omega) (by omega)
  have hE : Hid (refuseList len u s m = ((((((((List.replicate 12 (0 : Int)).set 0 (len / 256)).set (0 + 1) (len % 256)).set 4 4).set 8 u).set 9 s).set 10 ((m.size : Int) / 256)).set (10 + 1) ((m.size : Int) % 256)) ++ bytesOf m) := Lib.hid rfl
  generalize refuseList len u s m = L at *
  go_enter Tryd.func10, Tryd.ntmps10
  go_wp2_with (first | (refine Kd.R_make (Kd.int .u8) _ 5 rfl (N := 10) rfl 24 _ _ rfl 12 rfl rfl Tryd.underlying24 (.int .u8 0) 1 info5x rfl (by decide) (by omega) 0 (ok := fun _ => True) (okp := fun _ => True) rfl (fun _ hk => hk) trivial (by omega) (by omega) (Below.refl _ _) (Nat.le_refl _) ?_; intro v1 w1 hR1 hB1 hg_ hnew_; clear hg_ hnew_; obtain ⟨g, cap, cur, hv, hb, hs, hm1, hn, ht, hr⟩ := row_open hR1 (by decide); replace hv : v1 = .slice (some ⟨g, 0, none⟩) 12 cap := hv; subst hv; replace hR1 : Kd.R (Kd.int .u8) 5 w1 w.heap.size (fun _ => True) (.slice (some ⟨g, 0, none⟩) 12 cap) (List.replicate 12 0) := hR1; replace hn : 12 ≤ cap := hn; have HR1 := Aside0.mk hR1; have HB1 := Aside0.mk hB1; clear hR1 hB1 hb hs ht))
  have hP1 : Hid (Calls Tryd.prog 24 #[.slice (some ⟨g, 0, none⟩) 12 cap, .int .i64 0, .int .i64 2, .int .u64 len] w1 (RetOwn w.heap.size w (.slice (some ⟨g, 0, none⟩) 12 cap) (((List.replicate 12 (0 : Int)).set 0 (len / 256)).set (0 + 1) (len % 256)))) := Lib.hid (put2_calls w w1 _ _ 0 len HB1.out HR1.out (by decide) (by decide) h0 h1)
  clear HR1 HB1
  generalize hl2 : ((List.replicate 12 (0 : Int)).set 0 (len / 256)).set (0 + 1) (len % 256) = l2 at *
  have hL2 : l2.length = 12 := by rw [← hl2]; simp
  have HL2 := Lib.hid hL2
  clear hl2 hL2
  refine hP1.out.mono ?_
  rintro e w2 ⟨rfl, hR2, hB2⟩
  obtain ⟨g', cap', cur, hv, hb, hs, hm2, hn2, ht, hr2⟩ := row_open hR2 (by rw [HL2.out]; decide)
  rw [HL2.out] at hv ht
  injection hv with ea eb ec
  injection ea with ea
  injection ea with ea
  subst ea
  subst ec
  have hcs : 12 ≤ cur.size := by omega
  obtain ⟨x4, hx4⟩ : ∃ x, cur[4]? = some x := ⟨_, Array.getElem?_eq_getElem (by omega)⟩
  obtain ⟨x8, hx8⟩ : ∃ x, cur[8]? = some x := ⟨_, Array.getElem?_eq_getElem (by omega)⟩
  obtain ⟨x9, hx9⟩ : ∃ x, cur[9]? = some x := ⟨_, Array.getElem?_eq_getElem (by omega)⟩
  have d4 := (xb_cell hb 4).trans hx4
  have d8 := (xb_cell hb 8).trans hx8
  have d9 := (xb_cell hb 9).trans hx9
  have f4 := blk_free hb 4
  have f8 := blk_free hb 8
  have f9 := blk_free hb 9
  have HR3 : Hid (Kd.R (Kd.int .u8) 5 (((w2.setCell ⟨g, 4, none⟩ (.int .u8 4)).setCell ⟨g, 8, none⟩ (.int .u8 u)).setCell ⟨g, 9, none⟩ (.int .u8 s)) w.heap.size (fun _ => True) (.slice (some ⟨g, 0, none⟩) 12 cap) (((l2.set 4 4).set 8 u).set 9 s)) :=
    Lib.hid (whole_row' (by simp only [List.length_set]; exact HL2.out) (xb_set (xb_set (xb_set hb 4 _) 8 _) 9 _) (by simp only [Array.size_setIfInBounds]; exact hs) hm1 hn (take_set _ _ _ _ _ (take_set _ _ _ _ _ (take_set _ _ _ _ _ ht))) hr)
  have HB3 : Hid (Below w.heap.size w (((w2.setCell ⟨g, 4, none⟩ (.int .u8 4)).setCell ⟨g, 8, none⟩ (.int .u8 u)).setCell ⟨g, 9, none⟩ (.int .u8 s))) := Lib.hid (((hB2.setCell hr _).setCell hr _).setCell hr _)
  have hi4 : (4 : Int) < (12 : Int) := by decide
  clear hb hs ht hx4 hx8 hx9 hR2 hB2 hP1 hr2 hm2 hn2
  have hP2 : Hid (Calls Tryd.prog 24 #[.slice (some ⟨g, 0, none⟩) 12 cap, .int .i64 10, .int .i64 2, .int .u64 (m.size : Int)] (((w2.setCell ⟨g, 4, none⟩ (.int .u8 4)).setCell ⟨g, 8, none⟩ (.int .u8 u)).setCell ⟨g, 9, none⟩ (.int .u8 s)) (RetOwn w.heap.size w (.slice (some ⟨g, 0, none⟩) 12 cap) (((((l2.set 4 4).set 8 u).set 9 s).set 10 ((m.size : Int) / 256)).set (10 + 1) ((m.size : Int) % 256)))) := Lib.hid (put2_calls w _ _ _ 10 (m.size : Int) HB3.out HR3.out (by simp only [List.length_set]; rw [HL2.out]; decide) (by simp only [List.length_set]; rw [HL2.out]; decide) (by omega) (by omega))
  clear HR3 HB3
  go_wp2_with fail
  refine hP2.out.mono ?_
  rintro e w3 ⟨rfl, hR3, hB3⟩
  have HR3 := Lib.hid hR3
  have HB3 := Lib.hid hB3
  have hlen : Hid ((((((l2.set 4 4).set 8 u).set 9 s).set 10 ((m.size : Int) / 256)).set (10 + 1) ((m.size : Int) % 256)).length = 12) := Lib.hid (by simp only [List.length_set]; exact HL2.out)
  have HE : Hid (L = ((((((l2.set 4 4).set 8 u).set 9 s).set 10 ((m.size : Int) / 256)).set (10 + 1) ((m.size : Int) % 256)) ++ bytesOf m)) := hE
  clear hR3 hB3 hP2 hE
  generalize ((((l2.set 4 4).set 8 u).set 9 s).set 10 ((m.size : Int) / 256)).set (10 + 1) ((m.size : Int) % 256) = l3 at *
  go_wp2_with (first | (at_builtin; refine print_append_str (w0 := w) w.heap.size rfl (.tmp 28) _ 24 9 5 rfl Tryd.underlying24 Tryd.underlying9 info5x (.slice (some ⟨g, 0, none⟩) 12 cap) l3 m rfl rfl ?aO ?aB ?aS ?aL ?_; (case aB => exact HB3.out); (case aO => exact (Kd.own_of_R HR3.out)); (case aS => exact HB3.out.size); (case aL => have := hlen.out; omega); intro v4 w4 ho0 hb hg; have HO := Aside0.mk (Kd.R_of_own (h1 := fun _ => rfl) (ok := fun _ => True) ho0 (fun _ _ => trivial)); have HB4 := Aside0.mk hb; clear ho0 hb hg))
  go_ret
  exact ⟨_, rfl, by rw [HE.out]; exact HO.out, HB4.out⟩
theorem nums_bytes (m : ByteArray) : strOfNums (bytesOf m) = m := by
  have : (m.data.toList.map fun b => (b.toNat : Int)).map (fun n => UInt8.ofNat n.toNat) = m.data.toList := by
    rw [List.map_map]
    conv => rhs; rw [← List.map_id m.data.toList]
    apply List.map_congr_left
    intro b _
    simp
  show (⟨((m.data.toList.map fun b => (b.toNat : Int)).map (fun n => UInt8.ofNat n.toNat)).toArray⟩ : ByteArray) = m
  rw [this]
theorem refuse_len (len u s : Int) (m : ByteArray) : (refuseList len u s m).length = 12 + m.size := by
  unfold refuseList
  rw [List.length_append, bytesOf_length]
  rfl
theorem bytesOf_byt (m : ByteArray) : Byt (bytesOf m) := by
  intro x hx
  unfold bytesOf at hx
  obtain ⟨b, _, rfl⟩ := List.mem_map.1 hx
  have := b.toNat_lt
  omega
theorem refuse_read (len u s : Int) (m : ByteArray) (h0 : 0 ≤ len) (h1 : len ≤ 65535) (hu : 0 ≤ u ∧ u ≤ 255) (hs : 0 ≤ s ∧ s ≤ 255) (hm : m.size ≤ 2000) :
    impl_RefuseRead.f (refuseList len u s m) = some (len, 4, 0, 12, u, s, m, true) := by
  have hb : Byt (refuseList len u s m) := by
    intro x hx
    unfold refuseList at hx
    rcases List.mem_append.1 hx with hx | hx
    · simp only [List.mem_cons, List.not_mem_nil, or_false] at hx
      omega
    · exact bytesOf_byt m x hx
  have hl := refuse_len len u s m
  have g0 : (refuseList len u s m).getD 0 0 = len / 256 := rfl
  have g1 : (refuseList len u s m).getD 1 0 = len % 256 := rfl
  have g4 : (refuseList len u s m).getD 4 0 = 4 := rfl
  have g8 : (refuseList len u s m).getD 8 0 = u := rfl
  have g9 : (refuseList len u s m).getD 9 0 = s := rfl
  have g10 : (refuseList len u s m).getD 10 0 = (m.size : Int) / 256 := rfl
  have g11 : (refuseList len u s m).getD 11 0 = (m.size : Int) % 256 := rfl
  have gd : (refuseList len u s m).drop 12 = bytesOf m := rfl
  have e1 : len / 256 * 256 + len % 256 = len := by omega
  have e2 : (m.size : Int) / 256 * 256 + (m.size : Int) % 256 = (m.size : Int) := by omega
  unfold impl_RefuseRead.f
  rw [g0, g1, g4, g8, g9, g10, g11, gd, e1, e2, if_neg (by omega), if_pos ⟨hb, by omega, by omega⟩, Int.toNat_natCast, List.take_of_length_le (by rw [bytesOf_length]; exact Nat.le_refl _), nums_bytes]
theorem refuse_torn (l : List Int) (h : l.length < 12) : impl_RefuseRead.f l = some (0, 0, 0, 0, 0, 0, ⟨#[]⟩, false) := by unfold impl_RefuseRead.f; rw [if_pos h]

set_option maxHeartbeats 1000000 in
theorem refuse_main (len u s at_ : Int) (m : ByteArray) (w : World) (h0 : 0 ≤ len) (h1 : len ≤ 65535) (hu : 0 ≤ u ∧ u ≤ 255) (hs : 0 ≤ s ∧ s ≤ 255) (ha : 0 ≤ at_ ∧ at_ ≤ 255) (hm : m.size ≤ 2000) :
    Calls Tryd.prog 3 #[.int .u16 len, .int .u8 u, .int .u8 s, .string m, .int .u8 at_] w fun e w' => e = .returned (.bool true) ∧ Below w.heap.size w w' := by
  have hP : Hid (Calls Tryd.prog 10 #[.int .u16 len, .int .u8 u, .int .u8 s, .string m] w (RetRow (refuseList len u s m) w)) := Lib.hid (specRefuse len u s m w h0 h1 hm)
  have hrr := Lib.hid (refuse_read len u s m h0 h1 hu hs hm)
  have hll := Lib.hid (refuse_len len u s m)
  generalize refuseList len u s m = L at *
  have t1 : decide ((m.size : Int) > 2147483647) = false := by simp; omega
  have t2 : decide ((m.size : Int) > 2000) = false := by simp; omega
  obtain ⟨k, hk⟩ : ∃ k : Nat, at_ % 12 = (k : Int) := Int.eq_ofNat_of_zero_le (by omega)
  have hk12 : k < 12 := by omega
  have hAw : Hid (∀ W, Calls Tryd.prog 9 #[] W fun e w' => e = .returned (.bool true) ∧ Below W.heap.size W w') := Lib.hid fun W => laws_packetAwake.calls true W rfl
  clear h0 h1 hu hs
  go_enter Tryd.func3, Tryd.ntmps3
  go_wp2_with fail
  refine hP.out.mono ?_
  rintro e w1 ⟨v, rfl, hR, hB⟩
  obtain ⟨A, c, rfl, hle, hC⟩ := Kd.R_reads hR
  have hCl : Hid (∀ W, Below w1.heap.size w1 W → Calls Tryd.prog 12 #[.slice A L.length c] W (RetRow L W)) := Lib.hid fun W hW => bytes_Clone.calls A c L L W (Kd.C_below hC hW) hle (by unfold bytes_Clone.f; rw [if_pos (by have := hll.out; omega)])
  have hCk : Hid (∀ W, Below w1.heap.size w1 W → Calls Tryd.prog 12 #[.slice A k c] W (RetRow (L.take k) W)) := Lib.hid fun W hW => by
    have hkl : (L.take k).length = k := by rw [List.length_take]; have := hll.out; omega
    have := bytes_Clone.calls A c (L.take k) (L.take k) W (by exact Kd.C_take (Kd.C_below hC hW) (by have := hll.out; omega)) (by have := hll.out; omega) (by unfold bytes_Clone.f; rw [if_pos (by have := hll.out; omega)])
    rw [hkl] at this
    exact this
  have hRd : Hid (∀ v W, Kd.R (Kd.int .u8) 5 W 0 (fun _ => True) v L → Calls Tryd.prog 11 #[v] W fun e w' => e = .returned (.tuple #[.agg #[.int .u32 len, .int .u8 4, .int .u8 0, .int .u16 12], .int .u8 u, .int .u8 s, .string m, .bool true]) ∧ Below W.heap.size W w') := Lib.hid fun v W hv => by
    obtain ⟨A', c', rfl, hle', hC'⟩ := Kd.R_reads hv
    exact impl_RefuseRead.calls A' c' L _ _ _ _ _ _ _ _ W hC' hle' hrr.out
  have hRk : Hid (∀ v W, Kd.R (Kd.int .u8) 5 W 0 (fun _ => True) v (L.take k) → Calls Tryd.prog 11 #[v] W fun e w' => e = .returned (.tuple #[.agg #[.int .u32 0, .int .u8 0, .int .u8 0, .int .u16 0], .int .u8 0, .int .u8 0, .string ⟨#[]⟩, .bool false]) ∧ Below W.heap.size W w') := Lib.hid fun v W hv => by
    obtain ⟨A', c', rfl, hle', hC'⟩ := Kd.R_reads hv
    exact impl_RefuseRead.calls A' c' (L.take k) _ _ _ _ _ _ _ _ W hC' hle' (refuse_torn _ (by rw [List.length_take]; omega))
  have HB1 := Lib.hid hB
  have hc12 : 12 ≤ c := by have := hll.out; omega
  clear hR hB hC hP hrr
  go_wp2_with fail
  refine (hCl.out _ (Below.refl _ _)).mono ?_
  rintro e w2 ⟨v2, rfl, hR2, hB2⟩
  have HR2 := Lib.hid (Kd.R_lower hR2 (Nat.zero_le _))
  have HB2 := Lib.hid (bl_trans HB1.out hB2)
  have HB12 := Lib.hid hB2
  clear hR2 hB2 hCl HB1
  go_wp2_with fail
  refine (hRd.out _ _ HR2.out).mono ?_
  rintro e w3 ⟨rfl, hB3⟩
  have HB13 := Lib.hid (bl_trans HB12.out hB3)
  have HB3 := Lib.hid (bl_trans HB2.out hB3)
  clear hB3 HR2 HB2 HB12 hRd
  go_wp2_with fail
  have hA4 : Below w1.heap.size w1 (w3.alloc (.cells #[.int .u32 len, .int .u8 4, .int .u8 0, .int .u16 12] 28)) := bl_trans HB13.out ((Below.refl _ _).alloc (Nat.le_refl _) _)
  have hb4 := xb_new w3 (.cells #[.int .u32 len, .int .u8 4, .int .u8 0, .int .u16 12] 28)
  have HB4 := Lib.hid (bl_trans HB3.out ((Below.refl w3.heap.size w3).alloc (Nat.le_refl _) (.cells #[.int .u32 len, .int .u8 4, .int .u8 0, .int .u16 12] 28)))
  refine (hCk.out _ hA4).mono ?_
  rintro e w5 ⟨v5, rfl, hR5, hB5⟩
  have hb5 := blk_bl hb4 hB5 (by simp)
  have HB5 := Lib.hid (bl_trans HB4.out hB5)
  have HR5 := Lib.hid (Kd.R_lower hR5 (Nat.zero_le _))
  clear hA4 hb4 hB5 hR5 hCk HB13 HB3 HB4
  go_wp2_with fail
  refine (hRk.out _ _ HR5.out).mono ?_
  rintro e w6 ⟨rfl, hB6⟩
  have hb6 := blk_bl hb5 hB6 (xb_lt hb5)
  have d2 := xb_cell hb6 2
  have d3 := xb_cell hb6 3
  have HB6 := Lib.hid (bl_trans HB5.out hB6)
  have hg6 := xb_lt hb6
  clear hb5 hb6 hB6 HB5 HR5 hRk
  go_wp2_with fail
  refine (hAw.out _).mono ?_
  rintro e w7 ⟨rfl, hB7⟩
  have HB7 := Lib.hid (bl_trans (bl_trans HB6.out ((Below.refl w6.heap.size w6).alloc (Nat.le_refl _) _)) hB7)
  clear hB7
  go_wp2
  go_ret
  exact ⟨rfl, HB7.out⟩
def laws_FnPacketRefuse.f (a0 a1 a2 : Int) (a3 : ByteArray) (a4 : Int) : Option Bool :=
  if (0 ≤ a0 ∧ a0 ≤ 65535) ∧ (0 ≤ a1 ∧ a1 ≤ 255) ∧ (0 ≤ a2 ∧ a2 ≤ 255) ∧ (0 ≤ a4 ∧ a4 ≤ 255) then some true else none
set_option maxHeartbeats 400000 in
theorem laws_FnPacketRefuse.calls (a0 a1 a2 : Int) (a3 : ByteArray) (a4 : Int) (r : Bool) (w : World) (h : laws_FnPacketRefuse.f a0 a1 a2 a3 a4 = some r) :
    Calls Tryd.prog 3 #[.int .u16 a0, .int .u8 a1, .int .u8 a2, .string a3, .int .u8 a4] w fun e w' => e = .returned (.bool r) ∧ Below w.heap.size w w' := by
  unfold laws_FnPacketRefuse.f at h
  split at h
  · rename_i hh
    obtain rfl := Option.some.inj h
    clear h
    by_cases h1 : (a3.size : Int) > 2147483647
    · have t1 : decide ((a3.size : Int) > 2147483647) = true := by simpa using h1
      clear hh h1
      go_enter Tryd.func3, Tryd.ntmps3
      go_wp2
      go_ret
      exact ⟨rfl, Below.refl _ _⟩
    · by_cases h2 : (a3.size : Int) > 2000
      · have t1 : decide ((a3.size : Int) > 2147483647) = false := by simp; omega
        have t2 : decide ((a3.size : Int) > 2000) = true := by simpa using h2
        have hAw : Hid (∀ W, Calls Tryd.prog 9 #[] W fun e w' => e = .returned (.bool true) ∧ Below W.heap.size W w') := Lib.hid fun W => laws_packetAwake.calls true W rfl
        clear hh h1 h2
        go_enter Tryd.func3, Tryd.ntmps3
        go_wp2_with fail
        refine (hAw.out _).mono ?_
        rintro e w7 ⟨rfl, hB7⟩
        have HB7 := Lib.hid hB7
        clear hB7
        go_wp2
        go_ret
        exact ⟨rfl, HB7.out⟩
      · exact refuse_main a0 a1 a2 a4 a3 w hh.1.1 hh.1.2 hh.2.1 hh.2.2.1 hh.2.2.2 (by omega)
  · cases h
end Go.Proofs.YtpacjdlgnoiheaaDoor.X
namespace Go.Proofs.YtpacjdlgnoiheaaDoor.Pure
set_option linter.unusedVariables false
open Go
theorem rng {k : IntKind} {n : Int} (h : (Lit.int k n).wf = true) : k.min ≤ n ∧ n ≤ k.max := by
  simp only [Lit.wf, Bool.and_eq_true, decide_eq_true_eq] at h
  exact h
theorem FnPacketRefuse (a0 : Int) (w0 : (Lit.int .u16 a0).wf = true) (a1 : Int) (w1 : (Lit.int .u8 a1).wf = true) (a2 : Int) (w2 : (Lit.int .u8 a2).wf = true) (a3 : ByteArray) (w3 : a3.size ≤ 140737488351232) (a4 : Int) (w4 : (Lit.int .u8 a4).wf = true) :
    X.laws_FnPacketRefuse.f a0 a1 a2 a3 a4 = some true := by
  unfold X.laws_FnPacketRefuse.f
  exact if_pos ⟨rng w0, rng w1, rng w2, rng w4⟩
end Go.Proofs.YtpacjdlgnoiheaaDoor.Pure
