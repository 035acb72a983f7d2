/- The law FnServedSteps: its walk. -/
import Derived.Test.YtgjjmhhdncmigaaDoorVf
import Derived.Test.YtgjjmhhdncmigaaDoorVo
namespace Go.Proofs.YtgjjmhhdncmigaaDoor.X
open Go.RowKit Go.Proofs.YtgjjmhhdncmigaaDoorW.PrintWords Go.Proofs.YtgjjmhhdncmigaaDoorW.PrintMore
attribute [local go_sem] setCell_drewN alloc_drewN
set_option linter.unusedVariables false
set_option linter.unusedSimpArgs false
def laws_FnServedSteps.f (ps : List Sv.Stp) : Option Bool := some true
set_option maxHeartbeats 16000000 in
set_option maxRecDepth 100000 in
theorem laws_FnServedSteps.calls (A0 : Option Addr) (c0 : Nat) (ps : List Sv.Stp) (r : Bool) (w : World) (hr0 : Sv.stpKd.C w A0 ps.length ps) (hc0 : ps.length ≤ c0) (h : laws_FnServedSteps.f ps = some r) :
    Calls Tryd.prog 4 #[.slice A0 ps.length c0] w fun e w' => e = .returned (.bool r) ∧ Below w.heap.size w w' := by
  obtain rfl := Option.some.inj h
  clear h
  have HR := Lib.hid hr0
  obtain ⟨n, hnl⟩ : ∃ n, n = ps.length := ⟨_, rfl⟩
  have HN := Lib.hid hnl
  have HZ : Hid (∀ W : World, Below w.heap.size w W → Calls Tryd.prog 5 #[.slice A0 n c0] W fun e w' => Sv.BlP (ps.length ≤ 2147483647) e ∧ Below W.heap.size W w') := Lib.hid (fun W hW => by rw [hnl]; exact zzFits2_ok ps A0 c0 W (Kd.C_below hr0 hW))
  have HCg : Hid (∀ W : World, Below w.heap.size w W → ps.length ≤ 2147483647 → Calls Tryd.prog 6 #[.slice A0 n c0] W fun e w' => Sv.BlP (ps.length ≤ 100 ∧ ∀ x ∈ ps, Sv.Ok x.2) e ∧ Below W.heap.size W w') := Lib.hid (fun W hW h => by rw [hnl]; exact configSteps_ok ps A0 c0 W (Kd.C_below hr0 hW) h)
  have HSp : Hid (∀ W : World, Below w.heap.size w W → (ps.length ≤ 100 ∧ ∀ x ∈ ps, Sv.Ok x.2) → Calls Tryd.prog 8 #[.slice A0 n c0] W fun e w' => Sv.SpecR 30 4 ps W.heap.size e w' ∧ Below W.heap.size W w') := Lib.hid (fun W hW h => by rw [hnl]; exact specServed_ok ps A0 c0 W (Kd.C_below hr0 hW) h.1 h.2)
  have HIm : Hid (∀ W : World, Below w.heap.size w W → (ps.length ≤ 100 ∧ ∀ x ∈ ps, Sv.Ok x.2) → Calls Tryd.prog 9 #[.slice A0 n c0] W fun e w' => (∃ v1 v2 v3, e = .returned (.tuple #[v1, v2, v3]) ∧ Sv.srvKd.R 30 w' W.heap.size (fun _ => True) v1 (Sv.gots ps) ∧ Kd.bool.R 4 w' W.heap.size (fun _ => True) v2 (Sv.oks ps) ∧ Sv.srvKd.R 30 w' W.heap.size (fun _ => True) v3 (Sv.st ps).1) ∧ Below W.heap.size W w') := Lib.hid (fun W hW h => by rw [hnl]; exact implServed_ok ps A0 c0 W (Kd.C_below hr0 hW) (by omega) h.2)
  have hg : (Sv.gots ps).length = n := by rw [Sv.gots_len, hnl]
  have ho : (Sv.oks ps).length = n := by rw [Sv.oks_len, hnl]
  obtain ⟨m, hm⟩ : ∃ m, m = (Sv.st ps).1.length := ⟨_, rfl⟩
  have HG := Lib.hid hg
  have HO := Lib.hid ho
  have HM := Lib.hid hm
  rw [← hnl]
  clear hr0 hc0 hnl hg ho hm
  go_enter Tryd.func4, Tryd.ntmps4
  go_wp2_with (first
    | (go_at_call 5; (with_reducible refine (HZ.out _ (Below.refl _ _)).mono ?_); rintro e w1 ⟨⟨b1, rfl, h1⟩, hb1⟩; have HF1 := Lib.hid h1; have HB1 := Lib.hid hb1; clear h1 hb1; cases b1)
    | (go_at_call 6; (with_reducible refine (HCg.out _ HB1.out (HF1.out (by simp))).mono ?_); rintro e w2 ⟨⟨b2, rfl, h2⟩, hb2⟩; have HF2 := Lib.hid h2; have HB2 := Lib.hid (HB1.out.trans (hb2.mono HB1.out.size)); clear h2 hb2; cases b2)
    | (go_at_call 8; (with_reducible refine (HSp.out _ HB2.out (HF2.out (by simp))).mono ?_); rintro e w3 ⟨hsp, hb3⟩; have HB3 := Lib.hid (HB2.out.trans (hb3.mono HB2.out.size)); clear hb3; rcases hsp with rfl | ⟨v1, v2, v3, rfl, h1, h2, h3⟩; rotate_left; obtain ⟨A1, c1, e1, -, hC1⟩ := Kd.R_reads h1; obtain ⟨A2, c2, e2, -, hC2⟩ := Kd.R_reads h2; obtain ⟨A3, c3, e3, -, hC3⟩ := Kd.R_reads h3; rw [HG.out] at e1; rw [HO.out] at e2; rw [← HM.out] at e3; subst e1; subst e2; subst e3; have HC1 := Lib.hid hC1; have HC2 := Lib.hid hC2; have HC3 := Lib.hid hC3; clear h1 h2 h3 hC1 hC2 hC3; rotate_right)
    | (go_at_call 9; (with_reducible refine (HIm.out _ HB3.out (HF2.out (by simp))).mono ?_); rintro e w4 ⟨⟨v1, v2, v3, rfl, h1, h2, h3⟩, hb4⟩; have HB4 := Lib.hid (HB3.out.trans (hb4.mono HB3.out.size)); have HD1 := Lib.hid (Kd.C_below HC1.out hb4); have HD2 := Lib.hid (Kd.C_below HC2.out hb4); have HD3 := Lib.hid (Kd.C_below HC3.out hb4); clear hb4; obtain ⟨B1, d1, e1, -, hC1⟩ := Kd.R_reads h1; obtain ⟨B2, d2, e2, -, hC2⟩ := Kd.R_reads h2; obtain ⟨B3, d3, e3, -, hC3⟩ := Kd.R_reads h3; rw [HG.out] at e1; rw [HO.out] at e2; rw [← HM.out] at e3; subst e1; subst e2; subst e3; have HE1 := Lib.hid hC1; have HE2 := Lib.hid hC2; have HE3 := Lib.hid hC3; have HEqB : Hid (Calls Tryd.prog 11 #[.slice B2 n d2, .slice A2 n c2] w4 fun e w' => e = .returned (.bool true) ∧ Below w4.heap.size w4 w') := Lib.hid (by have h := equalB_ok (Sv.oks ps) B2 A2 d2 c2 w4 HE2.out HD2.out; rw [HO.out] at h; exact h); have HEqS : Hid (∀ W, Below w4.heap.size w4 W → Calls Tryd.prog 10 #[.slice B3 m d3, .slice A3 m c3] W fun e w' => e = .returned (.bool true) ∧ Below W.heap.size W w') := Lib.hid (fun W hW => by have h := equalS_ok (Sv.st ps).1 B3 A3 d3 c3 W (Kd.C_below HE3.out hW) (Kd.C_below HD3.out hW); rw [← HM.out] at h; exact h); clear h1 h2 h3 hC1 hC2 hC3)
    | (go_at_call 11; (with_reducible refine HEqB.out.mono ?_); rintro e w5 ⟨rfl, hb5⟩; have HB5 := Lib.hid hb5; clear hb5)
    | (go_at_call 10; (with_reducible refine (HEqS.out _ HB5.out).mono ?_); rintro e w6 ⟨rfl, hb6⟩; have HB6 := Lib.hid (HB5.out.trans (hb6.mono HB5.out.size)); clear hb6)
    | (go_at_call 7; (with_reducible refine (servedAwake_ok _).mono ?_); rintro e w9 ⟨rfl, hb9⟩; have HB9 := Lib.hid hb9; clear hb9))
  all_goals first
    | (go_ret; exact ⟨rfl, HB1.out⟩)
    | (go_ret; exact ⟨rfl, HB2.out.trans (HB9.out.mono HB2.out.size)⟩)
    | (go_ret; exact ⟨rfl, HB3.out.trans (HB9.out.mono HB3.out.size)⟩)
    | skip
  have hn100 : n ≤ 100 := by have h1 := (HF2.out (by simp)).1; have h2 := HN.out; omega
  go_loopw [54] (fun v54 wr => ∃ j : Nat, v54 = .int .i64 j ∧ j ≤ n ∧ Hid (Below w4.heap.size w4 wr)) (fun v54 _ => n - (intOf v54).toNat)
  case atStart => exact ⟨0, rfl, Nat.zero_le _, HB6⟩
  case round =>
    obtain ⟨j, rfl, hj, HBr⟩ := hrel
    by_cases hlt : j < n
    · have t2 : decide ((j : Int) < (n : Int)) = true := decide_eq_true (by omega)
      have t3 : (0 : Int) ≤ (j : Int) := Int.natCast_nonneg _
      have t4 : (j : Int) < (n : Int) := by omega
      have hjl : j < (Sv.gots ps).length := by rw [HG.out]; exact hlt
      obtain ⟨g0, o0, rfl, y0, y1, y2⟩ := Sv.srv_at (Kd.C_below HE1.out HBr.out) j hjl
      obtain ⟨g1, o1, rfl, z0, z1, z2⟩ := Sv.srv_at (Kd.C_below HD1.out HBr.out) j hjl
      obtain ⟨⟨g2, o2, q2⟩, rfl, x0⟩ := Kd.at_bool (Kd.C_below HE2.out HBr.out) (j : Int) t3 (by have := HO.out; omega)
      generalize rdOf false (Sv.oks ps) (j : Int) = b at x0
      generalize (Sv.gots ps)[j] = y at y0 y1 y2 z0 z1 z2
      obtain ⟨yp, ya, yn⟩ := y
      simp only at y0 y1 y2 z0 z1 z2
      rw [Int.toNat_natCast] at x0
      have z0 := cell_alloc (.cells #[.string yp, .string ya, .int .i64 yn] 30) z0
      have z1 := cell_alloc (.cells #[.string yp, .string ya, .int .i64 yn] 30) z1
      have z2 := cell_alloc (.cells #[.string yp, .string ya, .int .i64 yn] 30) z2
      have x0 := cell_alloc (.cells #[.string yp, .string ya, .int .i64 yn] 30) x0
      cases b
      all_goals
        go_wp2
        go_quiet (skip)
        go_simp
        go_wp2
        go_roundw
        case measure => simp [intOf]; omega
        case rel => exact ⟨j + 1, by go_num, by omega, Lib.hid (HBr.out.trans ((bl_trans (below_alloc (Below.refl _ _) _) (bl_drewN _ _)).mono HBr.out.size))⟩
    · have hjn : j = n := by omega
      have t2 : decide ((j : Int) < (n : Int)) = false := decide_eq_false (by omega)
      go_wp2_with (go_at_call 7; (with_reducible refine (servedAwake_ok _).mono ?_); rintro e w9 ⟨rfl, hb9⟩; have HB9 := Lib.hid hb9; clear hb9)
      go_ret
      exact ⟨rfl, HB4.out.trans ((HBr.out.trans (HB9.out.mono HBr.out.size)).mono HB4.out.size)⟩
end Go.Proofs.YtgjjmhhdncmigaaDoor.X
