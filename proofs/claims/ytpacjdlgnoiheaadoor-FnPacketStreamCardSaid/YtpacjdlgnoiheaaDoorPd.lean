/- impl.DataRead: what it returns of any bytes. -/
import Derived.Test.YtpacjdlgnoiheaaDoorPk
import Derived.Deep.RegionHeld3
namespace Go.Proofs.YtpacjdlgnoiheaaDoor.X
open Go.RowKit Go.Proofs.YtpacjdlgnoiheaaDoorW.PrintWords Go.Proofs.YtpacjdlgnoiheaaDoorW.PrintMore
attribute [local go_sem] setCell_drewN alloc_drewN

def RetDErr (w : World) (e : Ending) (w' : World) : Prop := ∃ g, e = .returned (.tuple #[.pointer none, .iface 111 (.pointer (some ⟨g, 0, none⟩))]) ∧ Below w.heap.size w w'
set_option maxHeartbeats 400000 in
theorem dataShort (A : Option Addr) (n c : Nat) (ctx : Value) (w : World) (hn : n < 10) : Calls Tryd.prog 38 #[.slice A n c, ctx] w (RetDErr w) := by
  have h1 : decide ((n : Int) < 10) = true := by simp; omega
  go_enter Tryd.func38, Tryd.ntmps38
  go_wp2_with fail
  refine (errorsNew _ _).mono ?_
  rintro e w1 ⟨g, rfl, hB⟩
  go_wp2
  go_ret2
  exact ⟨_, rfl, hB⟩
set_option maxHeartbeats 400000 in
theorem dataOther (A : Option Addr) (c : Nat) (l : List Int) (ctx : Value) (w : World) (hr : Kd.C (Kd.int .u8) w A l.length l) (hn : 10 ≤ l.length) (h4 : ¬ l.getD 4 0 = 6) : Calls Tryd.prog 38 #[.slice A l.length c, ctx] w (RetDErr w) := by
  obtain ⟨g, o, rfl, hg, hc⟩ := C_base hr (by omega)
  have c4 := hc 4 (by omega)
  clear hc hr
  generalize l.getD 4 0 = x at *
  generalize l.length = n at *
  have i4 : (4 : Int) < (n : Int) := by omega
  have h1 : decide ((n : Int) < 10) = false := by simp; omega
  have h2 : (x == 6) = false := by simp [h4]
  have h3 : (x != 6) = true := by simp [h4]
  go_enter Tryd.func38, Tryd.ntmps38
  go_wp2_with fail
  refine (errorsNew _ _).mono ?_
  rintro e w1 ⟨g, rfl, hB⟩
  go_wp2
  go_ret2
  exact ⟨_, rfl, hB⟩

def RetData (len ty fl : Int) (ctx : Value) (df : Int) (n : Nat) (l : List Int) (w : World) (e : Ending) (w' : World) : Prop :=
  ∃ g A c, e = .returned (.tuple #[.pointer (some ⟨g, 0, none⟩), .nilIface]) ∧ w'.heap[g]? = some (.cells #[.int .u16 10, .int .u32 len, .int .u8 ty, .int .u8 fl, ctx, .int .u16 df, .slice A n c] 72 (0, 0)) ∧ Kd.C (Kd.int .u8) w' A n l ∧ n ≤ c ∧ w.heap.size ≤ g ∧ Below w.heap.size w w'
set_option maxHeartbeats 1000000 in
theorem dataOk (A : Option Addr) (c : Nat) (l : List Int) (x : Nat) (cpl : Bool) (ver : Int) (w : World) (hr : Kd.C (Kd.int .u8) w A l.length l) (hc : l.length ≤ c) (hn : 10 ≤ l.length) (hb : Byt l) (h4 : l.getD 4 0 = 6)
    (x9 : w.cell? ⟨x, 9, none⟩ = some (.bool cpl)) (x2 : w.cell? ⟨x, 2, none⟩ = some (.int .u16 ver)) :
    Calls Tryd.prog 38 #[.slice A l.length c, .pointer (some ⟨x, 0, none⟩)] w (RetData (lenOf (longOf cpl ver) l) 6 (l.getD 5 0) (.pointer (some ⟨x, 0, none⟩)) (l.getD 8 0 * 256 + l.getD 9 0) (l.length - 10) (l.drop 10) w) := by
  obtain ⟨g, o, rfl, hg, hcell⟩ := C_base hr (by omega)
  have e8 : ((l.drop 8).take (l.length - 8)).length = l.length - 8 := by rw [List.length_take, List.length_drop]; omega
  have g0 : ((l.drop 8).take (l.length - 8)).getD 0 0 = l.getD 8 0 := by simp only [List.getD_eq_getElem?_getD]; rw [List.getElem?_take, if_pos (by omega), List.getElem?_drop]
  have g1 : ((l.drop 8).take (l.length - 8)).getD 1 0 = l.getD 9 0 := by simp only [List.getD_eq_getElem?_getD]; rw [List.getElem?_take, if_pos (by omega), List.getElem?_drop]
  have BE8 : Hid (∀ c' W, Below w.heap.size w W → Calls Tryd.prog 47 #[.agg #[], .slice (some ⟨g, o + 8, none⟩) (l.length - 8) c'] W (Ret (.int .u16 (l.getD 8 0 * 256 + l.getD 9 0)) W)) := Lib.hid fun c' W hW => by
    have h := be16 _ _ c' _ W (Kd.C_below (xC_drop hr 8 (l.length - 8) (by omega)) hW) (by omega) (fun x hx => hb x (List.mem_of_mem_drop (List.mem_of_mem_take hx)))
    rw [e8, g0, g1] at h
    exact h
  have BE0 : Hid (∀ W, Below w.heap.size w W → Calls Tryd.prog 47 #[.agg #[], .slice (some ⟨g, o, none⟩) l.length c] W (Ret (.int .u16 (l.getD 0 0 * 256 + l.getD 1 0)) W)) := Lib.hid fun W hW => be16 _ _ c _ W (Kd.C_below hr hW) (by omega) hb
  have BL0 : Hid (∀ W, Below w.heap.size w W → Calls Tryd.prog 49 #[.agg #[], .slice (some ⟨g, o, none⟩) l.length c] W (Ret (.int .u32 (((l.getD 0 0 * 256 + l.getD 1 0) * 256 + l.getD 2 0) * 256 + l.getD 3 0)) W)) := Lib.hid fun W hW => be32 _ _ c _ W (Kd.C_below hr hW) (by omega) hb
  have c4 := hcell 4 (by omega)
  have c5 := hcell 5 (by omega)
  have HD : Hid (∀ W, Below w.heap.size w W → ∀ A', (c = 10 ∨ A' = some ⟨g, o + 10, none⟩) → Kd.C (Kd.int .u8) W A' (l.length - 10) (l.drop 10)) := Lib.hid fun W hW A' hA => by
    have hl : (l.drop 10).length = l.length - 10 := List.length_drop ..
    rcases hA with hA | rfl
    · have hz : l.drop 10 = [] := List.drop_eq_nil_of_le (by omega)
      rw [hz, show l.length - 10 = ([] : List Int).length from by simp; omega]
      exact C_empty _ _ _
    · have h := xC_drop hr 10 (l.length - 10) (by omega)
      rw [List.take_of_length_le (by omega), hl] at h
      exact Kd.C_below h hW
  obtain ⟨len, hlen⟩ : ∃ y, y = lenOf (longOf cpl ver) l := ⟨_, rfl⟩
  have hlen0 : longOf cpl ver = true → len = ((l.getD 0 0 * 256 + l.getD 1 0) * 256 + l.getD 2 0) * 256 + l.getD 3 0 := fun h => by rw [hlen, h]; rfl
  have hlen1 : longOf cpl ver = false → len = l.getD 0 0 * 256 + l.getD 1 0 := fun h => by rw [hlen, h]; rfl
  rw [← hlen]
  have hw : ∀ v : Int, v = l.getD 0 0 * 256 + l.getD 1 0 → 0 ≤ v ∧ v ≤ 65535 := fun v hv => by have := hb.get 0; have := hb.get 1; omega
  obtain ⟨v16, e16⟩ : ∃ v, v = l.getD 0 0 * 256 + l.getD 1 0 := ⟨_, rfl⟩
  obtain ⟨v32, e32⟩ : ∃ v, v = ((l.getD 0 0 * 256 + l.getD 1 0) * 256 + l.getD 2 0) * 256 + l.getD 3 0 := ⟨_, rfl⟩
  have hv := hw _ e16
  rw [← e16] at BE0 hlen1
  rw [← e32] at BL0 hlen0
  obtain ⟨df, edf⟩ : ∃ v, v = l.getD 8 0 * 256 + l.getD 9 0 := ⟨_, rfl⟩
  rw [← edf] at BE8 ⊢
  rw [h4] at c4
  generalize l.getD 5 0 = y5 at *
  have HL0 := Lib.hid hlen0
  have HL1 := Lib.hid hlen1
  have hdl : (l.drop 10).length = l.length - 10 := List.length_drop ..
  have HDL := Lib.hid hdl
  clear hlen hlen0 hlen1 hw e16 e32 edf h4 hb hr hcell e8 g0 g1 hdl
  generalize l.drop 10 = lb at *
  generalize l.length = n at *
  obtain ⟨hv0, hv1⟩ := hv
  have hw32 : IntKind.u32.wrap v16 = v16 := u32_wrap_id _ hv0 (by omega)
  have HW32 := Lib.hid hw32
  have h1 : decide ((n : Int) < 10) = false := by simp; omega
  have s4 : (4 : Int) < (n : Int) := by omega
  have s5 : (5 : Int) < (n : Int) := by omega
  have q1 : (8 : Int) ≤ (n : Int) := by omega
  have q2 : (10 : Int) ≤ (n : Int) := by omega
  have q3 : 8 ≤ c := by omega
  have q4 : 10 ≤ c := by omega
  have q5 : ¬ c = 8 := by omega
  clear hw32
  rcases (show (c = 10 ∧ n = 10) ∨ ¬ c = 10 by omega) with ⟨rfl, rfl⟩ | r4
  · have HC := fun W hW => HD.out W hW (some ⟨g, o, none⟩) (.inl rfl)
    rcases (show (len = v32 ∧ cpl = true ∧ 315 ≤ ver) ∨ (len = v16 ∧ cpl = false) ∨ (len = v16 ∧ cpl = true ∧ ¬ 315 ≤ ver) by
      cases cpl
      · exact .inr (.inl ⟨HL1.out rfl, rfl⟩)
      · by_cases hv3 : 315 ≤ ver
        · exact .inl ⟨HL0.out (by simp [longOf, hv3]), rfl, hv3⟩
        · exact .inr (.inr ⟨HL1.out (by simp [longOf, hv3]), rfl, hv3⟩)) with ⟨rfl, rfl, h315⟩ | ⟨rfl, rfl⟩ | ⟨rfl, rfl, h315⟩
    all_goals
      have HCH := Lib.hid HC
      clear HL0 HL1 HC HD
      go_enter Tryd.func38, Tryd.ntmps38
      go_wp2_with fail
      go_region_held3 (fun w' => w'.cell? ⟨g, o + 4, none⟩ = some (.int .u8 6) ∧ w'.cell? ⟨g, o + 5, none⟩ = some (.int .u8 y5)) (first | exact ⟨c4, c5⟩ | exact ⟨k4, k5⟩ | exact ⟨cell_alloc _ k4, cell_alloc _ k5⟩) (first | (go_at_call 47; refine (BE8.out _ _ ?hw).mono ?_; (case hw => exact bl_drewN w 1); rintro e w2 ⟨rfl, hb2⟩; have k4 := bl_cell hb2 c4; have k5 := bl_cell hb2 c5; have HB2 := Lib.hid hb2; clear hb2))
      have hWA : Below w.heap.size w (w2.alloc (.cells #[.int .u16 10, .int .u32 0, .int .u8 6, .int .u8 y5, .pointer (some ⟨x, 0, none⟩), .int .u16 df, .slice (some ⟨g, o, none⟩) 0 0] 72)) := bl_trans (bl_trans (bl_drewN w 1) HB2.out) ((Below.refl _ _).alloc (Nat.le_refl _) _)
      have X9 := bl_cell hWA x9
      have X2 := bl_cell hWA x2
      have HWA := Lib.hid hWA
      have hs2 : w.heap.size ≤ w2.heap.size := HB2.out.size
      clear hWA BE8 c4 c5 k4 k5
      go_wp2_with fail
      (first | (go_at_call 49; refine (BL0.out _ HWA.out).mono ?_) | (go_at_call 47; refine (BE0.out _ HWA.out).mono ?_))
      rintro e w4 ⟨rfl, hb4⟩
      have b4 := blk_bl (xb_new w2 _) hb4 (by simp)
      have d1 := xb_cell b4 1
      have f1 := blk_free b4 1
      have Hb4 := Lib.hid b4
      have HB4 := Lib.hid hb4
      clear b4 hb4 BE0 BL0
      (try have hw32 := HW32.out)
      go_wp2
      go_ret2
      exact ⟨_, _, _, rfl, xb_set Hb4.out 1 _, HCH.out _ ((bl_trans HWA.out HB4.out).setCell hs2 _), by omega, hs2, (bl_trans HWA.out HB4.out).setCell hs2 _⟩
  · have HC := fun W hW => HD.out W hW (some ⟨g, o + 10, none⟩) (.inr rfl)
    rcases (show (len = v32 ∧ cpl = true ∧ 315 ≤ ver) ∨ (len = v16 ∧ cpl = false) ∨ (len = v16 ∧ cpl = true ∧ ¬ 315 ≤ ver) by
      cases cpl
      · exact .inr (.inl ⟨HL1.out rfl, rfl⟩)
      · by_cases hv3 : 315 ≤ ver
        · exact .inl ⟨HL0.out (by simp [longOf, hv3]), rfl, hv3⟩
        · exact .inr (.inr ⟨HL1.out (by simp [longOf, hv3]), rfl, hv3⟩)) with ⟨rfl, rfl, h315⟩ | ⟨rfl, rfl⟩ | ⟨rfl, rfl, h315⟩
    all_goals
      have HCH := Lib.hid HC
      clear HL0 HL1 HC HD
      go_enter Tryd.func38, Tryd.ntmps38
      go_wp2_with fail
      go_region_held3 (fun w' => w'.cell? ⟨g, o + 4, none⟩ = some (.int .u8 6) ∧ w'.cell? ⟨g, o + 5, none⟩ = some (.int .u8 y5)) (first | exact ⟨c4, c5⟩ | exact ⟨k4, k5⟩ | exact ⟨cell_alloc _ k4, cell_alloc _ k5⟩) (first | (go_at_call 47; refine (BE8.out _ _ ?hw).mono ?_; (case hw => exact bl_drewN w 1); rintro e w2 ⟨rfl, hb2⟩; have k4 := bl_cell hb2 c4; have k5 := bl_cell hb2 c5; have HB2 := Lib.hid hb2; clear hb2))
      have hWA : Below w.heap.size w (w2.alloc (.cells #[.int .u16 10, .int .u32 0, .int .u8 6, .int .u8 y5, .pointer (some ⟨x, 0, none⟩), .int .u16 df, .slice (some ⟨g, o + 10, none⟩) (n - 10) (c - 10)] 72)) := bl_trans (bl_trans (bl_drewN w 1) HB2.out) ((Below.refl _ _).alloc (Nat.le_refl _) _)
      have X9 := bl_cell hWA x9
      have X2 := bl_cell hWA x2
      have HWA := Lib.hid hWA
      have hs2 : w.heap.size ≤ w2.heap.size := HB2.out.size
      clear hWA BE8 c4 c5 k4 k5
      go_wp2_with fail
      (first | (go_at_call 49; refine (BL0.out _ HWA.out).mono ?_) | (go_at_call 47; refine (BE0.out _ HWA.out).mono ?_))
      rintro e w4 ⟨rfl, hb4⟩
      have b4 := blk_bl (xb_new w2 _) hb4 (by simp)
      have d1 := xb_cell b4 1
      have f1 := blk_free b4 1
      have Hb4 := Lib.hid b4
      have HB4 := Lib.hid hb4
      clear b4 hb4 BE0 BL0
      (try have hw32 := HW32.out)
      go_wp2
      go_ret2
      exact ⟨_, _, _, rfl, xb_set Hb4.out 1 _, HCH.out _ ((bl_trans HWA.out HB4.out).setCell hs2 _), by omega, hs2, (bl_trans HWA.out HB4.out).setCell hs2 _⟩

end Go.Proofs.YtpacjdlgnoiheaaDoor.X
