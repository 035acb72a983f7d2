/- bytes.Equal (as the kit's print writes it), and laws.sessionLive. -/
import Derived.Test.YtdnahdddkagfhaaDoorPo
namespace Go.Proofs.YtdnahdddkagfhaaDoor.X
open Go.RowKit Go.Proofs.YtdnahdddkagfhaaDoorW.PrintWords Go.Proofs.YtdnahdddkagfhaaDoorW.PrintLast Go.Proofs.YtdnahdddkagfhaaDoorW.PrintMore
attribute [local go_sem] setCell_drewN alloc_drewN
set_option linter.unusedVariables false
set_option linter.unusedSimpArgs false
def bytes_Equal.f (l0 : List Int) (l1 : List Int) : Option (Bool) := some ((strOfNums l0).toList == (strOfNums l1).toList)
set_option maxHeartbeats 8000000 in
set_option maxRecDepth 100000 in
theorem bytes_Equal.calls (A0 : Option Addr) (c0 : Nat) (l0 : List Int) (A1 : Option Addr) (c1 : Nat) (l1 : List Int) (r : Bool) (w : World) (hr0 : Kd.C (Kd.int .u8) w A0 l0.length l0) (hc0 : l0.length ≤ c0) (hr1 : Kd.C (Kd.int .u8) w A1 l1.length l1) (hc1 : l1.length ≤ c1) (h : bytes_Equal.f l0 l1 = some r) :
    Calls Tryd.prog 19 #[.slice A0 l0.length c0, .slice A1 l1.length c1] w fun e w' => e = .returned (.bool r) ∧ Drawn0 w w' := by
  have HR0 := Aside0.mk hr0
  have HC0 := Aside0.mk hc0
  clear hr0 hc0
  have HR1 := Aside0.mk hr1
  have HC1 := Aside0.mk hc1
  clear hr1 hc1
  have H : (some ((strOfNums l0).toList == (strOfNums l1).toList)) = some r := h
  clear h
  obtain rfl := Option.some.inj H
  have hcv3 := Kd.C_string (P := Tryd.prog) (A := A0) (c := c0) Tryd.underlying22 Tryd.underlying5 Tryd.underlying9 HR0.out
  have hcv4 := Kd.C_string (P := Tryd.prog) (A := A1) (c := c1) Tryd.underlying22 Tryd.underlying5 Tryd.underlying9 HR1.out
  go_enter Tryd.func19, Tryd.ntmps19
  go_wp2
  go_ret
  exact ⟨by first | rfl | (simp; done) | (simp [*]; done), by repeat (first | exact Drawn0.refl _ | apply Drawn0.step)⟩
/-- Bytes that are equal to those of a row written out. -/
theorem eq_lit (l : List Int) (hl : l.length ≤ 1000) (A : Option Addr) (c : Nat) (W : World) (hC : Kd.C (Kd.int .u8) W A l.length l) (hc : l.length ≤ c) :
    Calls Tryd.prog 19 #[.slice A l.length c, .slice (some ⟨W.heap.size, 0, none⟩) l.length l.length] (W.alloc (.cells (l.map (Value.int .u8)).toArray 5)) fun e w' => e = .returned (.bool true) ∧ Drawn0 (W.alloc (.cells (l.map (Value.int .u8)).toArray 5)) w' := by
  refine bytes_Equal.calls A c l _ _ l true _ (Kd.C_alloc hC _) hc (C_of (by omega) fun i hi => ?_) (Nat.le_refl _) (by simp [bytes_Equal.f])
  rw [xb_cell (xb_new _ _), Nat.zero_add, List.getElem?_toArray, List.getElem?_map, List.getElem?_eq_getElem hi, List.getD_eq_getElem?_getD, List.getElem?_eq_getElem hi]
  rfl
theorem eq_litB (l : List Int) (hl : l.length ≤ 1000) (A : Option Addr) (c : Nat) (W : World) (hC : Kd.C (Kd.int .u8) W A l.length l) (hc : l.length ≤ c) :
    Calls Tryd.prog 19 #[.slice A l.length c, .slice (some ⟨W.heap.size, 0, none⟩) l.length l.length] (W.alloc (.cells (l.map (Value.int .u8)).toArray 5)) fun e w' => e = .returned (.bool true) ∧ Below W.heap.size W w' := by
  refine (eq_lit l hl A c W hC hc).mono ?_
  rintro e w' ⟨rfl, n, rfl⟩
  exact ⟨rfl, (below_alloc (Below.refl _ _) _).trans ((bl_drewN _ n).mono (by rw [World.size_alloc]; omega))⟩
set_option maxHeartbeats 4000000 in
set_option maxRecDepth 100000 in
theorem sessionLive_calls (w : World) : Calls Tryd.prog 14 #[] w fun e w' => e = .returned (.bool true) ∧ Below w.heap.size w w' := by
  have HPut : Hid (Calls Tryd.prog 16 #[.slice (some ⟨w.heap.size + 1, 0, none⟩) 1 1, .bool false, .int .i64 64] ((w.alloc (.cells #[.int .u8 7, .int .u8 8] 5)).alloc (.cells #[.int .i64 1, .slice (some ⟨w.heap.size, 0, none⟩) 2 2, .slice none 0 0, .int .i64 0, .int .u64 0, .int .u8 0, .int .u8 0, .bool false, .bool false] 29)) fun e w' => ∃ v, e = .returned v ∧ Kd.R (Kd.int .u8) 5 w' ((w.alloc (.cells #[.int .u8 7, .int .u8 8] 5)).alloc (.cells #[.int .i64 1, .slice (some ⟨w.heap.size, 0, none⟩) 2 2, .slice none 0 0, .int .i64 0, .int .u64 0, .int .u8 0, .int .u8 0, .bool false, .bool false] 29)).heap.size (fun _ => True) v [2, 7, 8] ∧ Below ((w.alloc (.cells #[.int .u8 7, .int .u8 8] 5)).alloc (.cells #[.int .i64 1, .slice (some ⟨w.heap.size, 0, none⟩) 2 2, .slice none 0 0, .int .i64 0, .int .u64 0, .int .u8 0, .int .u8 0, .bool false, .bool false] 29)).heap.size ((w.alloc (.cells #[.int .u8 7, .int .u8 8] 5)).alloc (.cells #[.int .i64 1, .slice (some ⟨w.heap.size, 0, none⟩) 2 2, .slice none 0 0, .int .i64 0, .int .u64 0, .int .u8 0, .int .u8 0, .bool false, .bool false] 29)) w') := Lib.hid (by
    have hb := xb_new (w.alloc (.cells #[.int .u8 7, .int .u8 8] 5)) (.cells #[.int .i64 1, .slice (some ⟨w.heap.size, 0, none⟩) 2 2, .slice none 0 0, .int .i64 0, .int .u64 0, .int .u8 0, .int .u8 0, .bool false, .bool false] 29)
    rw [World.size_alloc] at hb
    refine put_two 7 8 false 64 _ (w.heap.size + 1) w.heap.size 2 ?_ ?_ ?_ ?_ ?_ ?_ ?_ ?_ ?_ (fun i hi => ?_)
    all_goals first | (rw [xb_cell hb]; rfl) | skip
    refine cell_alloc _ ?_
    rw [xb_cell (xb_new _ _)]
    rcases i with _ | _ | i
    · rfl
    · rfl
    · omega)
  have HGet : Hid (∀ W : World, Calls Tryd.prog 18 #[.slice (some ⟨W.heap.size, 0, none⟩) 4 4, .slice (some ⟨W.heap.size + 1, 0, none⟩) 1 1, .bool false] ((W.alloc (.cells #[.int .u8 2, .int .u8 7, .int .u8 8, .int .u8 9] 5)).alloc (.cells #[.int .i64 2, .int .i64 0, .bool false, .bool false] 35)) fun e w' => ∃ dA dn dc g2 c2 v2, e = .returned (.tuple #[.slice (some ⟨g2, 0, none⟩) 1 c2, v2]) ∧ (w'.cell? ⟨g2, 0, none⟩ = some (.bool true) ∧ w'.cell? ⟨g2, 1, none⟩ = some (.slice dA dn dc) ∧ w'.cell? ⟨g2, 3, none⟩ = some (.int .i64 0)) ∧ Ses.Data [7, 8] w' (.slice dA dn dc) ∧ Kd.R (Kd.int .u8) 5 w' ((W.alloc (.cells #[.int .u8 2, .int .u8 7, .int .u8 8, .int .u8 9] 5)).alloc (.cells #[.int .i64 2, .int .i64 0, .bool false, .bool false] 35)).heap.size (fun _ => True) v2 [9] ∧ Below ((W.alloc (.cells #[.int .u8 2, .int .u8 7, .int .u8 8, .int .u8 9] 5)).alloc (.cells #[.int .i64 2, .int .i64 0, .bool false, .bool false] 35)).heap.size ((W.alloc (.cells #[.int .u8 2, .int .u8 7, .int .u8 8, .int .u8 9] 5)).alloc (.cells #[.int .i64 2, .int .i64 0, .bool false, .bool false] 35)) w') := Lib.hid (fun W => by
    have hb := xb_new (W.alloc (.cells #[.int .u8 2, .int .u8 7, .int .u8 8, .int .u8 9] 5)) (.cells #[.int .i64 2, .int .i64 0, .bool false, .bool false] 35)
    rw [World.size_alloc] at hb
    refine get_one (Ses.Data [7, 8]) (Ses.Data_below [7, 8]) 2 0 false false false [2, 7, 8, 9] 3 0 (by decide) (by decide) (by decide) (fun W2 b g c hrs => ?_) _ ⟨W.heap.size, 0, none⟩ 4 (W.heap.size + 1) (fun i hi => ?_) ?_ ?_ ?_ ?_
    · exact got_clr_short W2 b g c [2, 7, 8, 9] 0 2 false 64 hrs (by decide) (by decide) rfl (by decide)
    · have hi' : i < 4 := hi
      refine cell_alloc _ ?_
      have hn := xb_new W (.cells #[.int .u8 2, .int .u8 7, .int .u8 8, .int .u8 9] 5)
      rcases i with _ | _ | _ | _ | i
      · exact xb_cell hn 0
      · exact xb_cell hn 1
      · exact xb_cell hn 2
      · exact xb_cell hn 3
      · omega
    all_goals (rw [xb_cell hb]; rfl))
  have HB0 : Hid (Below w.heap.size w ((w.alloc (.cells #[.int .u8 7, .int .u8 8] 5)).alloc (.cells #[.int .i64 1, .slice (some ⟨w.heap.size, 0, none⟩) 2 2, .slice none 0 0, .int .i64 0, .int .u64 0, .int .u8 0, .int .u8 0, .bool false, .bool false] 29))) := Lib.hid (below_alloc (below_alloc (Below.refl _ _) _) _)
  have HE1 : Hid (∀ (A : Option Addr) (c : Nat) (W : World), Kd.C (Kd.int .u8) W A 3 [2, 7, 8] → 3 ≤ c → Calls Tryd.prog 19 #[.slice A 3 c, .slice (some ⟨W.heap.size, 0, none⟩) 3 3] (W.alloc (.cells #[.int .u8 2, .int .u8 7, .int .u8 8] 5)) fun e w' => e = .returned (.bool true) ∧ Below W.heap.size W w') := Lib.hid (fun A c W hC hc => eq_litB [2, 7, 8] (by decide) A c W hC hc)
  have HE2 : Hid (∀ (A : Option Addr) (c : Nat) (W : World), Kd.C (Kd.int .u8) W A 2 [7, 8] → 2 ≤ c → Calls Tryd.prog 19 #[.slice A 2 c, .slice (some ⟨W.heap.size, 0, none⟩) 2 2] (W.alloc (.cells #[.int .u8 7, .int .u8 8] 5)) fun e w' => e = .returned (.bool true) ∧ Below W.heap.size W w') := Lib.hid (fun A c W hC hc => eq_litB [7, 8] (by decide) A c W hC hc)
  have HE3 : Hid (∀ (A : Option Addr) (c : Nat) (W : World), Kd.C (Kd.int .u8) W A 1 [9] → 1 ≤ c → Calls Tryd.prog 19 #[.slice A 1 c, .slice (some ⟨W.heap.size, 0, none⟩) 1 1] (W.alloc (.cells #[.int .u8 9] 5)) fun e w' => e = .returned (.bool true) ∧ Below W.heap.size W w') := Lib.hid (fun A c W hC hc => eq_litB [9] (by decide) A c W hC hc)
  go_enter Tryd.func14, Tryd.ntmps14
  go_wp2_with (first | (go_at_call 16; (with_reducible refine HPut.out.mono ?_); rintro e w1 ⟨v1, rfl, hR1, hb1⟩; obtain ⟨A1, c1, rfl, hle1, hC1⟩ := Kd.R_reads hR1; have HC1 := Lib.hid hC1; have HB1 := Lib.hid (HB0.out.trans (hb1.mono HB0.out.size)); clear hR1 hb1 hC1) | (go_at_call 18; (with_reducible refine (HGet.out _).mono ?_); rintro e w2 ⟨dA, dn, dc, g2, c2, v2, rfl, ⟨k0, k1, k3⟩, ⟨bd, hDd⟩, hRr, hb2⟩; obtain ⟨hdn, hdc, hCd⟩ := Kd.R_reads' hDd; (have hdn2 : dn = 2 := hdn); subst hdn2; obtain ⟨A3, c3, rfl, hle3, hC3⟩ := Kd.R_reads hRr; have HB2 := Lib.hid ((below_alloc (below_alloc (Below.refl _ _) _) _ : Below w1.heap.size w1 _).trans (hb2.mono (below_alloc (below_alloc (Below.refl w1.heap.size w1) _) _).size)); have HC1b := Lib.hid (Kd.C_below HC1.out HB2.out); have HCd := Lib.hid hCd; have HC3 := Lib.hid hC3; have HBb := Lib.hid (HB1.out.trans (HB2.out.mono HB1.out.size)); clear hDd hRr hb2 hCd hC3) | (go_at_call 19; (with_reducible refine (HE1.out _ _ _ HC1b.out hle1).mono ?_); rintro e w3 ⟨rfl, hb3⟩; have k0a := bl_cell hb3 k0; have k1a := bl_cell hb3 k1; have HCd3 := Lib.hid (Kd.C_below HCd.out hb3); have HC33 := Lib.hid (Kd.C_below HC3.out hb3); have HBc := Lib.hid (HBb.out.trans (hb3.mono HBb.out.size)); clear hb3) | (go_at_call 19; (with_reducible refine (HE2.out _ _ _ HCd3.out hdc).mono ?_); rintro e w4 ⟨rfl, hb4⟩; have HC34 := Lib.hid (Kd.C_below HC33.out hb4); have HBd := Lib.hid (HBc.out.trans (hb4.mono HBc.out.size)); clear hb4) | (go_at_call 19; (with_reducible refine (HE3.out _ _ _ HC34.out hle3).mono ?_); rintro e w5 ⟨rfl, hb5⟩; have HBe := Lib.hid (HBd.out.trans (hb5.mono HBd.out.size)); clear hb5))
  go_ret
  exact ⟨rfl, HBe.out⟩
end Go.Proofs.YtdnahdddkagfhaaDoor.X
