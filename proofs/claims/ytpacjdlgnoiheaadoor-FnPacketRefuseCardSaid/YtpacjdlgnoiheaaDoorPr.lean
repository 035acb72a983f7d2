/- impl.RefuseRead: what it returns of any bytes. -/
import Derived.Test.YtpacjdlgnoiheaaDoorPk
import Derived.Deep.RegionHeld3
namespace Go.Proofs.YtpacjdlgnoiheaaDoor.X
open Go.RowKit Go.Proofs.YtpacjdlgnoiheaaDoorW.PrintWords Go.Proofs.YtpacjdlgnoiheaaDoorW.PrintMore
attribute [local go_sem] setCell_drewN alloc_drewN
def RetNil (w : World) (e : Ending) (w' : World) : Prop := e = .returned (.pointer none) ∧ Drawn0 w w'
set_option maxHeartbeats 400000 in
theorem refuseShort (A : Option Addr) (n c : Nat) (w : World) (hn : n < 12) : Calls Tryd.prog 36 #[.slice A n c] w (RetNil w) := by
  have h1 : decide ((n : Int) < 12) = true := by simp; omega
  go_enter Tryd.func36, Tryd.ntmps36
  go_wp2
  go_ret
  exact ⟨rfl, Drawn0.refl _⟩
def RetBlk (T : TypeId) (cs : Array Value) (w : World) (e : Ending) (w' : World) : Prop := ∃ g, e = .returned (.pointer (some ⟨g, 0, none⟩)) ∧ w'.heap[g]? = some (.cells cs T (0, 0)) ∧ w.heap.size ≤ g ∧ Below w.heap.size w w'
set_option maxHeartbeats 200000 in
theorem refuseMsg (A : Option Addr) (c : Nat) (l : List Int) (w : World) (hr : Kd.C (Kd.int .u8) w A l.length l) (hc : l.length ≤ c) (hb : Byt l) (h12 : 12 ≤ l.length) (hl : l.length ≤ 65535)
    (hm : 12 + (l.getD 10 0 * 256 + l.getD 11 0) ≤ 65535) (hy : 12 + (l.getD 10 0 * 256 + l.getD 11 0) ≤ l.length) :
    Calls Tryd.prog 36 #[.slice A l.length c] w (RetBlk 64 #[.int .u16 12, .int .u32 (l.getD 0 0 * 256 + l.getD 1 0), .int .u8 (l.getD 4 0), .int .u8 0, .pointer none, .int .u8 (l.getD 9 0), .int .u8 (l.getD 8 0), .string (strOfNums ((l.drop 12).take (l.getD 10 0 * 256 + l.getD 11 0).toNat))] w) := by
  obtain ⟨g, o, rfl, hg, hcell⟩ := C_base hr (by omega)
  have e10 : ((l.drop 10).take (l.length - 10)).length = l.length - 10 := by rw [List.length_take, List.length_drop]; omega
  have g10 : ((l.drop 10).take (l.length - 10)).getD 0 0 = l.getD 10 0 := by simp only [List.getD_eq_getElem?_getD]; rw [List.getElem?_take, if_pos (by omega), List.getElem?_drop]
  have g11 : ((l.drop 10).take (l.length - 10)).getD 1 0 = l.getD 11 0 := by simp only [List.getD_eq_getElem?_getD]; rw [List.getElem?_take, if_pos (by omega), List.getElem?_drop]
  have BE : Hid (∀ c' W, Below w.heap.size w W → Calls Tryd.prog 47 #[.agg #[], .slice (some ⟨g, o + 10, none⟩) (l.length - 10) c'] W (Ret (.int .u16 (l.getD 10 0 * 256 + l.getD 11 0)) W)) := Lib.hid fun c' W hW => by
    have h := be16 _ _ c' _ W (Kd.C_below (xC_drop hr 10 (l.length - 10) (by omega)) hW) (by omega) (fun x hx => hb x (List.mem_of_mem_drop (List.mem_of_mem_take hx)))
    rw [e10, g10, g11] at h
    exact h
  have BE0 : Hid (∀ W, Below w.heap.size w W → Calls Tryd.prog 47 #[.agg #[], .slice (some ⟨g, o, none⟩) l.length c] W (Ret (.int .u16 (l.getD 0 0 * 256 + l.getD 1 0)) W)) := Lib.hid fun W hW => be16 _ _ c _ W (Kd.C_below hr hW) (by omega) hb
  have hdn : 12 + (l.getD 10 0 * 256 + l.getD 11 0).toNat ≤ l.length := by omega
  have CV : Hid (∀ W c', Below w.heap.size w W → (convert 24 9 (.slice (some ⟨g, o + 12, none⟩) (l.getD 10 0 * 256 + l.getD 11 0).toNat c')).run Tryd.prog W = .ok (.string (strOfNums ((l.drop 12).take (l.getD 10 0 * 256 + l.getD 11 0).toNat))) W) := Lib.hid fun W c' hW => by
    have h := Kd.C_string (P := Tryd.prog) (c := c') Tryd.underlying24 Tryd.underlying5 Tryd.underlying9 (Kd.C_below (xC_drop hr 12 (l.getD 10 0 * 256 + l.getD 11 0).toNat hdn) hW)
    have hlen : ((l.drop 12).take (l.getD 10 0 * 256 + l.getD 11 0).toNat).length = (l.getD 10 0 * 256 + l.getD 11 0).toNat := by rw [List.length_take, List.length_drop]; omega
    rw [hlen] at h
    exact h
  have CV0 : Hid (l.getD 10 0 * 256 + l.getD 11 0 = 0 → ∀ W A c', (convert 24 9 (.slice A 0 c')).run Tryd.prog W = .ok (.string (strOfNums ((l.drop 12).take (l.getD 10 0 * 256 + l.getD 11 0).toNat))) W) := Lib.hid fun hz W A c' => by
    rw [hz]
    exact Kd.C_string (P := Tryd.prog) (c := c') Tryd.underlying24 Tryd.underlying5 Tryd.underlying9 (C_empty .u8 W A)
  have c4 := hcell 4 (by omega)
  have c8 := hcell 8 (by omega)
  have c9 := hcell 9 (by omega)
  obtain ⟨h100, h101⟩ := hb.get 10
  obtain ⟨h110, h111⟩ := hb.get 11
  clear g10 g11 e10 hcell hr
  generalize strOfNums ((l.drop 12).take (l.getD 10 0 * 256 + l.getD 11 0).toNat) = msg at *
  generalize l.getD 10 0 = x10 at *
  generalize l.getD 11 0 = x11 at *
  obtain ⟨x0, hx0⟩ : ∃ x, x = l.getD 0 0 * 256 + l.getD 1 0 := ⟨_, rfl⟩
  rw [← hx0] at BE0 ⊢
  have hx00 : 0 ≤ x0 := by have := hb.get 0; have := hb.get 1; omega
  have hx01 : x0 ≤ 65535 := by have := hb.get 0; have := hb.get 1; omega
  generalize l.getD 4 0 = x4 at *
  generalize l.getD 8 0 = x8 at *
  generalize l.getD 9 0 = x9 at *
  clear hx0 hb
  obtain ⟨d, hd⟩ : ∃ d : Int, d = x10 * 256 + x11 := ⟨_, rfl⟩
  rw [← hd] at BE CV CV0 hm hy
  have hd0 : 0 ≤ d := by omega
  clear hd hdn
  generalize l.length = n at *
  have h1 : decide ((n : Int) < 12) = false := by simp; omega
  have q1 : (10 : Int) ≤ (n : Int) := by omega
  have q2 : 10 ≤ c := by omega
  have q3 : ¬ c = 10 := by omega
  go_enter Tryd.func36, Tryd.ntmps36
  go_wp2_with fail
  go_region_held3 (fun _ => True) (go_keep) (first | (go_at_call 47; refine (BE.out _ _ (by exact bl_drewN w 1)).mono ?_; rintro e w1 ⟨rfl, hb1⟩))
  obtain ⟨dn, rfl⟩ := Int.eq_ofNat_of_zero_le hd0
  rw [Int.toNat_natCast] at CV
  have r1 : ((12 : Int) + (dn : Int)).toNat = 12 + dn := by omega
  have r2 : (12 : Int) + (dn : Int) ≤ (n : Int) := by omega
  have r3 : 12 + dn ≤ c := by omega
  have CW : Hid (∀ c', (convert 24 9 (.slice (some (if c = 12 then ⟨g, o, none⟩ else ⟨g, o + 12, none⟩)) dn c')).run Tryd.prog w1 = .ok (.string msg) w1) := Lib.hid fun c' => by
    by_cases h : c = 12
    · have hz : dn = 0 := by omega
      subst hz
      exact CV0.out rfl _ _ _
    · rw [if_neg h]; exact CV.out w1 c' (bl_trans (bl_drewN w 1) hb1)
  clear CV CV0
  have hw1 : Below w.heap.size w w1 := bl_trans (bl_drewN w 1) hb1
  have d4 := bl_cell hw1 c4
  have d8 := bl_cell hw1 c8
  have d9 := bl_cell hw1 c9
  have HW1 := Lib.hid hw1
  have HM := Lib.hid hm
  have hg1 : g < w1.heap.size := Nat.lt_of_lt_of_le hg hw1.size
  clear hw1 hb1 c4 c8 c9 BE
  have s4 : (4 : Int) < (n : Int) := by omega
  have s8 : (8 : Int) < (n : Int) := by omega
  have s9 : (9 : Int) < (n : Int) := by omega
  have hw32 : IntKind.u32.wrap x0 = x0 := u32_wrap_id _ hx00 (by omega)
  have r5 : (12 : Int) ≤ (n : Int) := by omega
  clear hm hd0 hy r1 r3
  rcases (show (c = 12 ∧ dn = 0) ∨ ¬ c = 12 by omega) with ⟨rfl, rfl⟩ | r4
  all_goals
    have cv := CW.out
    (first | rw [if_pos rfl] at cv | rw [if_neg r4] at cv)
    clear CW
    go_wp2_with fail
    go_region_held3 (fun w' => w'.cell? ⟨g, o + 4, none⟩ = some (.int .u8 x4) ∧ w'.cell? ⟨g, o + 8, none⟩ = some (.int .u8 x8) ∧ w'.cell? ⟨g, o + 9, none⟩ = some (.int .u8 x9)) (first | exact ⟨d4, d8, d9⟩ | exact ⟨k4, k8, k9⟩ | go_keep) (first | (go_at_call 47; refine (BE0.out _ ?hw).mono ?_; (case hw => exact bl_trans HW1.out (bl_drewN w1 1)); rintro e w2 ⟨rfl, hb2⟩; have k4 := bl_cell hb2 d4; have k8 := bl_cell hb2 d8; have k9 := bl_cell hb2 d9; have HB2 := Lib.hid hb2; clear hb2))
    go_wp2_with fail
    go_ret
    exact ⟨_, rfl, xb_new _ _, Nat.le_trans HW1.out.size HB2.out.size, bl_trans (bl_trans HW1.out (bl_trans (bl_drewN w1 1) HB2.out)) ((Below.refl _ _).alloc (Nat.le_refl _) _)⟩

/-! ### the doors over it -/
def RetRefuse (cs : Array Value) (m : ByteArray) (w : World) (e : Ending) (w' : World) : Prop := ∃ g, e = .returned (.tuple #[.pointer (some ⟨g, 0, none⟩), .string m]) ∧ w'.heap[g]? = some (.cells cs 64 (0, 0)) ∧ w.heap.size ≤ g ∧ Below w.heap.size w w'
def RetNoRefuse (w : World) (e : Ending) (w' : World) : Prop := e = .returned (.tuple #[.pointer none, .string ⟨#[]⟩]) ∧ Below w.heap.size w w'
set_option maxHeartbeats 400000 in
theorem netRefuseNone (A : Option Addr) (n c : Nat) (w : World) (hn : n < 12) : Calls Tryd.prog 25 #[.slice A n c] w (RetNoRefuse w) := by
  go_enter Tryd.func25, Tryd.ntmps25
  go_wp2_with fail
  refine (refuseShort A n c _ hn).mono ?_
  rintro e w1 ⟨rfl, ⟨m, rfl⟩⟩
  go_wp2
  go_ret2
  exact ⟨rfl, bl_drewN _ _⟩
set_option maxHeartbeats 400000 in
theorem netRefuse (v : Value) (x0 x4 x9 x8 : Int) (msg : ByteArray) (w : World) (H : Hid (Calls Tryd.prog 36 #[v] w (RetBlk 64 #[.int .u16 12, .int .u32 x0, .int .u8 x4, .int .u8 0, .pointer none, .int .u8 x9, .int .u8 x8, .string msg] w))) :
    Calls Tryd.prog 25 #[v] w (RetRefuse #[.int .u16 12, .int .u32 x0, .int .u8 x4, .int .u8 0, .pointer none, .int .u8 x9, .int .u8 x8, .string msg] msg w) := by
  go_enter Tryd.func25, Tryd.ntmps25
  go_wp2_with fail
  refine H.out.mono ?_
  rintro e w1 ⟨g, rfl, hb, hg, hB⟩
  have c7 := xb_cell hb 7
  simp only [List.getElem?_toArray, List.getElem?_cons_succ, List.getElem?_cons_zero] at c7
  have HB := Lib.hid hb
  clear hb H
  go_wp2
  go_quiet (fail)
  go_wp2
  go_ret2
  exact ⟨g, rfl, HB.out, hg, bl_trans hB (bl_drewN _ _)⟩

def impl_RefuseRead.f (l : List Int) : Option (Int × Int × Int × Int × Int × Int × ByteArray × Bool) :=
  if l.length < 12 then some (0, 0, 0, 0, 0, 0, ⟨#[]⟩, false)
  else if Byt l ∧ l.length ≤ 65535 ∧ 12 + (l.getD 10 0 * 256 + l.getD 11 0) ≤ (l.length : Int) then
    some (l.getD 0 0 * 256 + l.getD 1 0, l.getD 4 0, 0, 12, l.getD 8 0, l.getD 9 0, strOfNums ((l.drop 12).take (l.getD 10 0 * 256 + l.getD 11 0).toNat), true)
  else none
set_option maxHeartbeats 1000000 in
theorem implRefuse (A : Option Addr) (c : Nat) (l : List Int) (w : World) (hr : Kd.C (Kd.int .u8) w A l.length l) (hc : l.length ≤ c) (hb : Byt l) (h12 : 12 ≤ l.length) (hl : l.length ≤ 65535)
    (hy : 12 + (l.getD 10 0 * 256 + l.getD 11 0) ≤ (l.length : Int)) :
    Calls Tryd.prog 11 #[.slice A l.length c] w (Ret (.tuple #[.agg #[.int .u32 (l.getD 0 0 * 256 + l.getD 1 0), .int .u8 (l.getD 4 0), .int .u8 0, .int .u16 12], .int .u8 (l.getD 8 0), .int .u8 (l.getD 9 0), .string (strOfNums ((l.drop 12).take (l.getD 10 0 * 256 + l.getD 11 0).toNat)), .bool true]) w) := by
  have CL : Hid (∀ W, Below w.heap.size w W → Calls Tryd.prog 12 #[.slice A l.length c] W (RetRow l W)) := Lib.hid fun W hW => bytes_Clone.calls A c l l W (Kd.C_below hr hW) hc (by unfold bytes_Clone.f; rw [if_pos (by omega)])
  have NR : Hid (∀ (W : World) B v, Kd.R (Kd.int .u8) 5 W B (fun _ => True) v l → Calls Tryd.prog 25 #[v] W (RetRefuse #[.int .u16 12, .int .u32 (l.getD 0 0 * 256 + l.getD 1 0), .int .u8 (l.getD 4 0), .int .u8 0, .pointer none, .int .u8 (l.getD 9 0), .int .u8 (l.getD 8 0), .string (strOfNums ((l.drop 12).take (l.getD 10 0 * 256 + l.getD 11 0).toNat))] (strOfNums ((l.drop 12).take (l.getD 10 0 * 256 + l.getD 11 0).toNat)) W)) := Lib.hid fun W B v hv => by
    obtain ⟨A', c', rfl, hc', hC⟩ := Kd.R_reads hv
    exact netRefuse _ _ _ _ _ _ W (Lib.hid (refuseMsg A' c' l W hC hc' hb h12 hl (by omega) hy))
  clear hr
  generalize strOfNums ((l.drop 12).take (l.getD 10 0 * 256 + l.getD 11 0).toNat) = msg at *
  generalize l.getD 0 0 * 256 + l.getD 1 0 = x0 at *
  generalize l.getD 4 0 = x4 at *
  generalize l.getD 8 0 = x8 at *
  generalize l.getD 9 0 = x9 at *
  clear hb hy
  go_enter Tryd.func11, Tryd.ntmps11
  go_wp2_with fail
  refine (CL.out _ ((Below.refl _ _).alloc (Nat.le_refl _) _)).mono ?_
  rintro e w1 ⟨v, rfl, hR, hB⟩
  have HR := Lib.hid hR
  have hz : (w.alloc (.cells #[.int .u32 0, .int .u8 0, .int .u8 0, .int .u16 0] 28)).heap.size = w.heap.size + 1 := by simp
  have b1 := blk_bl (xb_new w (.cells #[.int .u32 0, .int .u8 0, .int .u8 0, .int .u16 0] 28)) hB (by omega)
  have hBw : Below w.heap.size w w1 := bl_trans ((Below.refl _ _).alloc (Nat.le_refl _) _) hB
  have hs1 : w.heap.size < w1.heap.size := by have := hB.size; omega
  have HBw := Lib.hid hBw
  have Hb1 := Lib.hid b1
  clear hR hB hBw b1 hz
  go_wp2_with fail
  refine (NR.out _ _ _ HR.out).mono ?_
  rintro e w2 ⟨p, rfl, hb2, hp, hB2⟩
  have b2 := blk_bl Hb1.out hB2 hs1
  have hs2 : w.heap.size < w2.heap.size := Nat.lt_of_lt_of_le hs1 hB2.size
  have hp2 := xb_lt hb2
  have hpn : ¬ p = w.heap.size := by omega
  have HBw2 := Lib.hid (bl_trans HBw.out hB2)
  have hHO : Hid (Calls Tryd.prog 26 #[.pointer (some ⟨p, 0, none⟩)] w2.drew (Ret (.agg #[.int .u32 x0, .int .u8 x4, .int .u8 0, .int .u16 12]) w2.drew)) := Lib.hid (headOf p x0 x4 0 12 _ (xb_cell hb2 0) (xb_cell hb2 1) (xb_cell hb2 2) (xb_cell hb2 3))
  have c5 : w2.cell? ⟨p, 5, none⟩ = some (.int .u8 x9) := xb_cell hb2 5
  have c6 : w2.cell? ⟨p, 6, none⟩ = some (.int .u8 x8) := xb_cell hb2 6
  have Hb2 := Lib.hid b2
  clear hb2 hB2 b2 HBw Hb1 HR NR CL
  go_wp2_with fail
  go_region_held3 (fun w' => w'.cell? ⟨p, 5, none⟩ = some (.int .u8 x9) ∧ w'.cell? ⟨p, 6, none⟩ = some (.int .u8 x8)) (first | exact ⟨c5, c6⟩ | exact ⟨k5, k6⟩ | (simp only [set_far hpn]; exact ⟨k5, k6⟩)) (first | (go_at_call 26; refine hHO.out.mono ?_; rintro e w3 ⟨rfl, hb3⟩; have k5 := bl_cell hb3 c5; have k6 := bl_cell hb3 c6; have b3 := blk_bl (w := w2.drew) Hb2.out hb3 hs2; have d0 := xb_cell b3 0; have d1 := xb_cell b3 1; have d2 := xb_cell b3 2; have d3 := xb_cell b3 3; have f0 := blk_free b3 0; have f1 := blk_free b3 1; have f2 := blk_free b3 2; have f3 := blk_free b3 3; have HB3 := Lib.hid hb3; have Hb3 := Lib.hid b3; clear hb3 b3))
  go_wp2
  refine bodyPost_ret (results_list (rs := [.cell 2 28, .tmp 3, .tmp 4, .tmp 5, .tmp 6]) rfl (by simp) (.cell w.heap.size 28 #[.int .u32 x0, .int .u8 x4, .int .u8 0, .int .u16 12] (0, 0) _ rfl (xb_set (xb_set (xb_set (xb_set Hb3.out 0 _) 1 _) 2 _) 3 _) Tryd.underlying28 rfl (by kernel_rfl) (.tmp (.tmp (.tmp (.tmp .nil)))))) rfl ?_
  exact ⟨rfl, (((((bl_trans (bl_trans HBw2.out (bl_drewN w2 1)) HB3.out).setCell (Nat.le_refl _) _).setCell (Nat.le_refl _) _).setCell (Nat.le_refl _) _).setCell (Nat.le_refl _) _)⟩

set_option maxHeartbeats 400000 in
theorem implRefuseNone (A : Option Addr) (c : Nat) (l : List Int) (w : World) (hr : Kd.C (Kd.int .u8) w A l.length l) (hc : l.length ≤ c) (hn : l.length < 12) :
    Calls Tryd.prog 11 #[.slice A l.length c] w (Ret (.tuple #[.agg #[.int .u32 0, .int .u8 0, .int .u8 0, .int .u16 0], .int .u8 0, .int .u8 0, .string ⟨#[]⟩, .bool false]) w) := by
  have CL : Hid (∀ W, Below w.heap.size w W → Calls Tryd.prog 12 #[.slice A l.length c] W (RetRow l W)) := Lib.hid fun W hW => bytes_Clone.calls A c l l W (Kd.C_below hr hW) hc (by unfold bytes_Clone.f; rw [if_pos (by omega)])
  have NR : Hid (∀ (W : World) B v, Kd.R (Kd.int .u8) 5 W B (fun _ => True) v l → Calls Tryd.prog 25 #[v] W (RetNoRefuse W)) := Lib.hid fun W B v hv => by
    obtain ⟨A', c', rfl, hc', hC⟩ := Kd.R_reads hv
    exact netRefuseNone _ _ _ _ hn
  clear hr
  go_enter Tryd.func11, Tryd.ntmps11
  go_wp2_with fail
  refine (CL.out _ ((Below.refl _ _).alloc (Nat.le_refl _) _)).mono ?_
  rintro e w1 ⟨v, rfl, hR, hB⟩
  have HR := Lib.hid hR
  have hz : (w.alloc (.cells #[.int .u32 0, .int .u8 0, .int .u8 0, .int .u16 0] 28)).heap.size = w.heap.size + 1 := by simp
  have b1 := blk_bl (xb_new w (.cells #[.int .u32 0, .int .u8 0, .int .u8 0, .int .u16 0] 28)) hB (by omega)
  have hBw : Below w.heap.size w w1 := bl_trans ((Below.refl _ _).alloc (Nat.le_refl _) _) hB
  have hs1 : w.heap.size < w1.heap.size := by have := hB.size; omega
  have HBw := Lib.hid hBw
  have Hb1 := Lib.hid b1
  clear hR hB hBw b1 hz
  go_wp2_with fail
  refine (NR.out _ _ _ HR.out).mono ?_
  rintro e w2 ⟨rfl, hB2⟩
  have b2 := blk_bl Hb1.out hB2 hs1
  have HBw2 := Lib.hid (bl_trans HBw.out hB2)
  have d0 := xb_cell b2 0
  have d1 := xb_cell b2 1
  have d2 := xb_cell b2 2
  have d3 := xb_cell b2 3
  have f0 := blk_free b2 0
  have f1 := blk_free b2 1
  have f2 := blk_free b2 2
  have f3 := blk_free b2 3
  have Hb2 := Lib.hid b2
  clear b2 hB2 NR CL HR Hb1 HBw
  go_wp2
  refine bodyPost_ret (results_list (rs := [.cell 2 28, .tmp 3, .tmp 4, .tmp 5, .tmp 6]) rfl (by simp) (.cell w.heap.size 28 #[.int .u32 0, .int .u8 0, .int .u8 0, .int .u16 0] (0, 0) _ rfl (xb_set (xb_set (xb_set (xb_set Hb2.out 0 _) 1 _) 2 _) 3 _) Tryd.underlying28 rfl (by kernel_rfl) (.tmp (.tmp (.tmp (.tmp .nil)))))) rfl ?_
  exact ⟨rfl, ((((HBw2.out.setCell (Nat.le_refl _) _).setCell (Nat.le_refl _) _).setCell (Nat.le_refl _) _).setCell (Nat.le_refl _) _)⟩

theorem impl_RefuseRead.calls (A0 : Option Addr) (c0 : Nat) (l0 : List Int) (r1 r2 r3 r4 r5 r6 : Int) (r7 : ByteArray) (r8 : Bool) (w : World) (hr0 : Kd.C (Kd.int .u8) w A0 l0.length l0) (hc0 : l0.length ≤ c0) (h : impl_RefuseRead.f l0 = some (r1, r2, r3, r4, r5, r6, r7, r8)) :
    Calls Tryd.prog 11 #[.slice A0 l0.length c0] w fun e w' => e = .returned (.tuple #[.agg #[.int .u32 r1, .int .u8 r2, .int .u8 r3, .int .u16 r4], .int .u8 r5, .int .u8 r6, .string r7, .bool r8]) ∧ Below w.heap.size w w' := by
  unfold impl_RefuseRead.f at h
  split at h
  · simp only [Option.some.injEq, Prod.mk.injEq] at h
    obtain ⟨rfl, rfl, rfl, rfl, rfl, rfl, rfl, rfl⟩ := h
    exact implRefuseNone A0 c0 l0 w hr0 hc0 ‹_›
  · split at h
    · rename_i h1 h2
      simp only [Option.some.injEq, Prod.mk.injEq] at h
      obtain ⟨rfl, rfl, rfl, rfl, rfl, rfl, rfl, rfl⟩ := h
      exact implRefuse A0 c0 l0 w hr0 hc0 h2.1 (by omega) h2.2.1 h2.2.2
    · cases h
end Go.Proofs.YtpacjdlgnoiheaaDoor.X
