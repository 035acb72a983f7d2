/- spec.SessionPut: what the reference writes. -/
import Derived.Test.YtdnahdddkagfhaaDoorDy
namespace Go.Proofs.YtdnahdddkagfhaaDoor.X
open Go.RowKit Go.Proofs.YtdnahdddkagfhaaDoorW.PrintWords Go.Proofs.YtdnahdddkagfhaaDoorW.PrintLast Go.Proofs.YtdnahdddkagfhaaDoorW.PrintMore
attribute [local go_sem] setCell_drewN alloc_drewN
set_option linter.unusedVariables false
set_option linter.unusedSimpArgs false
namespace Ses
theorem plain_loop (be : Bool) (s : Int) (hs : s ≤ 100) : ∀ (m q : Nat) (x i : Int) (acc : List Int), acc.length + m ≤ 9 → i + m = s → 0 ≤ i →
    ZM.spec_SessionPlain.l0 (q + 7 + m) x be acc s i = some (if be then (acc ++ Dg.plainL m x).reverse else acc ++ Dg.plainL m x)
  | 0, q, x, i, acc, h1, h2, h3 => by
    rw [show q + 7 + 0 = (q + 6) + 1 by omega, ZM.spec_SessionPlain.l0, if_neg (by omega), Dg.plainL, List.append_nil]
    cases be
    · simp
    · simp [rev_small q acc (by omega)]
  | m + 1, q, x, i, acc, h1, h2, h3 => by
    rw [show q + 7 + (m + 1) = (q + 7 + m) + 1 by omega, ZM.spec_SessionPlain.l0, if_pos (by omega), if_pos (by omega), show wrap64 (i + 1) = i + 1 by unfold wrap64; omega, plain_loop be s hs m q (x / 256) (i + 1) (acc ++ [x % 256]) (by rw [List.length_append, List.length_singleton]; omega) (by omega) (by omega), Dg.plainL]
    simp only [List.append_assoc, List.singleton_append]
theorem specPlain (n : Int) (s : Nat) (be : Bool) (hs : s ≤ 8) (w : World) : Calls Tryd.prog 22 #[.int .u64 n, .int .i64 s, .bool be] w fun e w' => ∃ v, e = .returned v ∧ Kd.R (Kd.int .u8) 5 w' w.heap.size (fun _ => True) v (if be then (Dg.plainL s n).reverse else Dg.plainL s n) ∧ Below w.heap.size w w' := by
  have h := ZM.spec_SessionPlain.calls (7 + s) n s be _ w (by
    unfold ZM.spec_SessionPlain.f
    have h := plain_loop be (s : Int) (by omega) s 0 n 0 [] (by simp; omega) (by omega) (by omega)
    rw [Nat.zero_add, List.nil_append] at h
    exact h)
  exact h
end Ses
set_option maxHeartbeats 4000000 in
set_option maxRecDepth 100000 in
/-- spec.sessionNumber. -/
theorem specNumber (n kd s num uns fl : Int) (A B : Option Addr) (la ca lb cb : Nat) (be comp : Bool) (w : World) (h0 : 0 ≤ n) (h1 : n < 18446744073709551616) (s0 : 0 ≤ s) (s1 : s ≤ 8) :
    Calls Tryd.prog 55 #[.int .u64 n, .agg #[.int .i64 kd, .slice A la ca, .slice B lb cb, .int .i64 num, .int .u64 uns, .int .u8 s, .int .u8 fl, .bool be, .bool comp]] w fun e w' => ∃ v, e = .returned v ∧ Kd.R (Kd.int .u8) 5 w' w.heap.size (fun _ => True) v (Ses.numB (decide (kd = 2)) n s be comp) ∧ Below w.heap.size w w' := by
  have hz : w.heap.size ≤ (w.alloc (.cells #[.int .i64 kd, .slice A la ca, .slice B lb cb, .int .i64 num, .int .u64 uns, .int .u8 s, .int .u8 fl, .bool be, .bool comp] 29)).heap.size := by rw [World.size_alloc]; omega
  have HPk := Lib.hid (fun W => Ses.specPacked n h0 h1 W)
  obtain ⟨t, rfl⟩ : ∃ t : Nat, s = (t : Int) := ⟨s.toNat, by omega⟩
  have HPl := Lib.hid (fun W => Ses.specPlain n t be (by omega) W)
  have hB : Below w.heap.size w (w.alloc (.cells #[.int .i64 kd, .slice A la ca, .slice B lb cb, .int .i64 num, .int .u64 uns, .int .u8 t, .int .u8 fl, .bool be, .bool comp] 29)) := below_alloc (Below.refl _ _) _
  have HB := Lib.hid hB
  clear hB
  have hnum : ∀ X, X = Ses.numB (decide (kd = 2)) n t be comp → X = Ses.numB (decide (kd = 2)) n t be comp := fun _ h => h
  cases comp with
  | false =>
    have hN : Hid (Ses.numB (decide (kd = 2)) n t be false = if be then (Dg.plainL t n).reverse else Dg.plainL t n) := Lib.hid (by simp [Ses.numB])
    clear hnum
    go_enter Tryd.func55, Tryd.ntmps55
    go_wp2_with (go_at_call 22; (with_reducible refine (HPl.out _).mono ?_); rintro e w3 ⟨v3, rfl, hR3, hb3⟩; have HR3 := Lib.hid hR3; have HB3 := Lib.hid hb3; clear hR3 hb3)
    go_ret
    exact ⟨_, rfl, by rw [hN.out]; exact Kd.R_lower HR3.out hz, HB.out.trans (HB3.out.mono hz)⟩
  | true =>
    by_cases hk : kd = 2
    · subst hk
      have hN : Hid (Ses.numB (decide ((2 : Int) = 2)) n t be true = Dg.packed n) := Lib.hid (by simp [Ses.numB])
      clear hnum
      go_enter Tryd.func55, Tryd.ntmps55
      go_wp2_with (go_at_call 21; (with_reducible refine (HPk.out _).mono ?_); rintro e w3 ⟨v3, rfl, hR3, hb3⟩; have HR3 := Lib.hid hR3; have HB3 := Lib.hid hb3; clear hR3 hb3)
      go_ret
      exact ⟨_, rfl, by rw [hN.out]; exact Kd.R_lower HR3.out hz, HB.out.trans (HB3.out.mono hz)⟩
    · have t0 : decide (kd = 2) = false := decide_eq_false hk
      by_cases hs : (1 : Int) < (t : Int)
      · have t1 : decide ((t : Int) > 1) = true := decide_eq_true hs
        have hN : Hid (Ses.numB (decide (kd = 2)) n t be true = Dg.packed n) := Lib.hid (by simp [Ses.numB, t0, hs])
        clear hnum hs
        go_enter Tryd.func55, Tryd.ntmps55
        go_wp2_with (go_at_call 21; (with_reducible refine (HPk.out _).mono ?_); rintro e w3 ⟨v3, rfl, hR3, hb3⟩; have HR3 := Lib.hid hR3; have HB3 := Lib.hid hb3; clear hR3 hb3)
        go_ret
        exact ⟨_, rfl, by rw [hN.out]; exact Kd.R_lower HR3.out hz, HB.out.trans (HB3.out.mono hz)⟩
      · have t1 : decide ((t : Int) > 1) = false := decide_eq_false hs
        have hN : Hid (Ses.numB (decide (kd = 2)) n t be true = if be then (Dg.plainL t n).reverse else Dg.plainL t n) := Lib.hid (by simp [Ses.numB, t0, hs])
        clear hnum hs
        go_enter Tryd.func55, Tryd.ntmps55
        go_wp2_with (go_at_call 22; (with_reducible refine (HPl.out _).mono ?_); rintro e w3 ⟨v3, rfl, hR3, hb3⟩; have HR3 := Lib.hid hR3; have HB3 := Lib.hid hb3; clear hR3 hb3)
        go_ret
        exact ⟨_, rfl, by rw [hN.out]; exact Kd.R_lower HR3.out hz, HB.out.trans (HB3.out.mono hz)⟩
set_option maxHeartbeats 4000000 in
set_option maxRecDepth 100000 in
/-- spec.sessionDlc. -/
theorem specDlc (data : List Int) (A : Option Addr) (cp : Nat) (big : Bool) (c : Nat) (w : World) (hC : Kd.C (Kd.int .u8) w A data.length data) (hle : data.length ≤ cp) (hd2 : data.length ≤ 100000) (hc1 : 1 ≤ c) (hc2 : c ≤ 255) :
    Calls Tryd.prog 56 #[.slice A data.length cp, .bool big, .int .i64 c] w fun e w' => ∃ v, e = .returned v ∧ Kd.R (Kd.int .u8) 5 w' w.heap.size (fun _ => True) v (Dg.dlcB big c data) ∧ Below w.heap.size w w' := by
  have inf5 : (Tryd.prog.info? 5).map (fun i => (i.zero, i.size, i.bytes)) = some (some (.int .u8 0), 1, 1) := by kernel_rfl
  by_cases hs : data = []
  · subst hs
    have hd : Hid (Dg.dlcB big c [] = [0]) := Lib.hid (by unfold Dg.dlcB; rw [if_pos rfl])
    have HL := Lib.hid (Ses.lit1 w 0 w.heap.size (Nat.le_refl _))
    simp only [List.length_nil]
    go_enter Tryd.func56, Tryd.ntmps56
    go_wp2
    go_ret
    exact ⟨_, rfl, by rw [hd.out]; exact HL.out, below_alloc (Below.refl _ _) _⟩
  · have hd : Hid (Dg.dlcB big c data = Dg.packed (data.length : Int) ++ Dg.clrB big c data) := Lib.hid (by unfold Dg.dlcB; rw [if_neg hs])
    have hpos : 0 < data.length := List.length_pos_iff.2 hs
    have t0 : ((data.length : Int) == 0) = false := beq_eq_false_iff_ne.2 (by omega)
    have t1 : decide ((data.length : Int) = 0) = false := decide_eq_false (by omega)
    have tw : IntKind.u64.wrap (data.length : Int) = (data.length : Int) := (IntKind.wrap_u64 _).trans (by omega)
    have hpl : (Dg.packed (data.length : Int)).length ≤ 9 := Dg.headB_len true data.length
    have hcl := Dg.clrB_len big c hc1 data
    have HPk := Lib.hid (fun W => Ses.specPacked (data.length : Int) (by omega) (by omega) W)
    have HCl := Lib.hid (fun (W : World) (h : Below w.heap.size w W) => specClr data A cp big c W (Kd.C_below hC h) hle hd2 hc1 hc2)
    clear hC hs
    go_enter Tryd.func56, Tryd.ntmps56
    go_wp2_with (first | (go_at_call 21; (with_reducible refine (HPk.out _).mono ?_); rintro e w1 ⟨v1, rfl, hR1, hb1⟩; have HO1 := Lib.hid hR1; have HB1 := Lib.hid hb1; clear hR1 hb1) | (go_at_call 34; (with_reducible refine (HCl.out _ HB1.out).mono ?_); rintro e w2 ⟨v2, rfl, hR2, hb2⟩; obtain ⟨A2, c2, rfl, hle2, hC2, -, -⟩ := Ses.R_slots hR2; have HC2 := Lib.hid hC2; have HO2 := Lib.hid (Kd.R_below HO1.out hb2); have HB2 := Lib.hid (HB1.out.trans (hb2.mono HB1.out.size)); clear hR2 hC2 hb2) | ((with_reducible refine gate_builtin (b := .append) (xs := #[.tmp 14, .tmp 18]) rfl ?_); at_builtin; refine Kd.R_append_row (Value.int .u8) (0 : Int) (h1 := fun _ => rfl) (w0 := w) w.heap.size rfl (.tmp 14) (.tmp 18) 22 5 (.int .u8 0) 1 rfl Tryd.underlying22 inf5 rfl (by decide) v1 (Dg.packed (data.length : Int)) (Dg.clrB big c data) A2 ((Dg.clrB big c data).length) (c2) (fun _ => True) rfl rfl (fun _ _ => trivial) HO2.out HC2.out HB2.out HB2.out.size ?aL ?_; (case aL => omega); intro v3 w3 ho hb hg hat; have HO3 := Lib.hid ho; have HB3 := Lib.hid hb; clear ho hb hg hat))
    go_ret
    exact ⟨_, rfl, by rw [hd.out]; exact HO3.out, HB3.out⟩
set_option maxHeartbeats 4000000 in
set_option maxRecDepth 100000 in
/-- spec.SessionFixed. -/
theorem specFixed (data : List Int) (A : Option Addr) (cp : Nat) (w : World) (hC : Kd.C (Kd.int .u8) w A data.length data) (hle : data.length ≤ cp) (hd2 : data.length ≤ 100000) :
    Calls Tryd.prog 57 #[.slice A data.length cp] w fun e w' => ∃ v, e = .returned v ∧ Kd.R (Kd.int .u8) 5 w' w.heap.size (fun _ => True) v (Dg.fixedB data) ∧ Below w.heap.size w w' := by
  have inf5 : (Tryd.prog.info? 5).map (fun i => (i.zero, i.size, i.bytes)) = some (some (.int .u8 0), 1, 1) := by kernel_rfl
  have HC := Lib.hid hC
  clear hC
  by_cases hs : data.length ≤ 252
  · have t0 : decide ((data.length : Int) ≤ 252) = true := decide_eq_true (by omega)
    have tb : IntKind.u8.wrap ((data.length : Nat) : Int) = ((data.length : Nat) : Int) := by simp [IntKind.wrap, IntKind.bits, IntKind.signed]; omega
    have HL := Lib.hid (Ses.lit1 w (data.length : Int) w.heap.size (Nat.le_refl _))
    have HClr : Hid (Dg.fixedB data = [(data.length : Int)] ++ data) := Lib.hid (by unfold Dg.fixedB; rw [if_pos hs]; rfl)
    have HB := Lib.hid (below_alloc (Below.refl w.heap.size w) (.cells #[.int .u8 (data.length : Int)] 5))
    clear hs
    go_enter Tryd.func57, Tryd.ntmps57
    go_wp2_with (((with_reducible refine gate_builtin (b := .append) (xs := #[.tmp 9, .tmp 10]) rfl ?_); at_builtin; refine Kd.R_append_row (Value.int .u8) (0 : Int) (h1 := fun _ => rfl) (w0 := w) w.heap.size rfl (.tmp 9) (.tmp 10) 22 5 (.int .u8 0) 1 rfl Tryd.underlying22 inf5 rfl (by decide) _ ([(data.length : Int)]) (data) A (data.length) (cp) (fun _ => True) rfl rfl (fun _ _ => trivial) HL.out (Kd.C_below HC.out HB.out) HB.out HB.out.size ?aL ?_; (case aL => simp only [List.length_singleton]; omega); intro v4 w4 ho hb hg hat; have HO4 := Lib.hid ho; have HB4 := Lib.hid hb; clear ho hb hg hat))
    go_ret
    exact ⟨_, rfl, by rw [HClr.out]; exact HO4.out, HB4.out⟩
  · have t0 : decide ((data.length : Int) ≤ 252) = false := decide_eq_false (by omega)
    have tw : IntKind.u64.wrap (data.length : Int) = (data.length : Int) := (IntKind.wrap_u64 _).trans (by omega)
    have HFx : Hid (Dg.fixedB data = [254] ++ (Dg.plainL 4 (data.length : Int)).reverse ++ data) := Lib.hid (by unfold Dg.fixedB; rw [if_neg hs, List.append_assoc]; rfl)
    have HL := Lib.hid (Ses.lit1 w 254 w.heap.size (Nat.le_refl _))
    have HB := Lib.hid (below_alloc (Below.refl w.heap.size w) (.cells #[.int .u8 254] 5))
    have HPl : Hid (∀ W : World, Calls Tryd.prog 22 #[.int .u64 data.length, .int .i64 4, .bool true] W fun e w' => ∃ v, e = .returned v ∧ Kd.R (Kd.int .u8) 5 w' W.heap.size (fun _ => True) v (Dg.plainL 4 (data.length : Int)).reverse ∧ Below W.heap.size W w') := Lib.hid (fun W => by
      have h := Ses.specPlain (data.length : Int) 4 true (by omega) W
      rw [if_pos rfl] at h
      exact h)
    have hp4 : ((Dg.plainL 4 (data.length : Int)).reverse).length = 4 := by rw [List.length_reverse]; rfl
    obtain ⟨q, hq⟩ : ∃ q, q = (Dg.plainL 4 (data.length : Int)).reverse := ⟨_, rfl⟩
    rw [← hq] at HPl HFx hp4
    have HCat := Lib.hid (fun (W : World) (g0 : Nat) (B : Option Addr) (cB : Nat) (A1 : Option Addr) s0 s1 s2 h0 h1 h2 => concat3 W g0 A1 B A 1 cB cp [254] q data s0 s1 s2 h0 h1 h2 (by simp) (by simp only [List.length_singleton]; omega))
    clear hs hq
    obtain ⟨-, -, hL1⟩ := Kd.R_reads' HL.out
    have HL1 := Lib.hid hL1
    clear hL1
    go_enter Tryd.func57, Tryd.ntmps57
    go_wp2_with (first | (go_at_call 22; (with_reducible refine (HPl.out _).mono ?_); rintro e w2 ⟨v2, rfl, hR2, hb2⟩; obtain ⟨A2, c2, rfl, hle2, hC2, -, -⟩ := Ses.R_slots hR2; have HC2 := Lib.hid hC2; have HL2 := Lib.hid (Kd.C_below HL1.out hb2); have HB2 := Lib.hid (bl_trans HB.out hb2); clear hR2 hC2 hb2; (rw [hp4])) | (go_at_call 35; (with_reducible refine (HCat.out _ w2.heap.size A2 c2 (some ⟨w.heap.size, 0, none⟩) ?s0 ?s1 ?s2 ?h0 ?h1 ?h2).mono ?_); (case s0 => exact xb_cell (xb_new w2 _) 0); (case s1 => (rw [hp4]; exact xb_cell (xb_new w2 _) 1)); (case s2 => exact xb_cell (xb_new w2 _) 2); (case h0 => exact Kd.C_below HL2.out (below_alloc (Below.refl _ _) _)); (case h1 => exact Kd.C_below HC2.out (below_alloc (Below.refl _ _) _)); (case h2 => exact Kd.C_below HC.out (below_alloc HB2.out _)); rintro e w4 ⟨v4, rfl, hR4, hb4⟩; have HR4 := Lib.hid hR4; have HB4 := Lib.hid hb4; clear hR4 hb4))
    go_ret
    have hz2 : w.heap.size ≤ (w2.alloc (.cells #[.slice (some ⟨w.heap.size, 0, none⟩) 1 1, .slice A2 4 c2, .slice A data.length cp] 22)).heap.size := by rw [World.size_alloc]; have := HB2.out.size; omega
    exact ⟨_, rfl, by rw [HFx.out]; exact Kd.R_lower HR4.out hz2, (below_alloc HB2.out _).trans (HB4.out.mono hz2)⟩
end Go.Proofs.YtdnahdddkagfhaaDoor.X
