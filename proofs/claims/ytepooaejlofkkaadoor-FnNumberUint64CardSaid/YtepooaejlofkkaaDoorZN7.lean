-- Written by a program of this session (wip/xprint.py), which calls the kit's print.
import Derived.Test.YtepooaejlofkkaaDoorZN0
import Derived.Test.YtepooaejlofkkaaDoorZN2
import Derived.Test.YtepooaejlofkkaaDoorZN3
import Derived.Test.YtepooaejlofkkaaDoorZN4
import Derived.Test.YtepooaejlofkkaaDoorNum
namespace Go.Proofs.YtepooaejlofkkaaDoor.ZN
open Go.RowKit Go.Proofs.YtepooaejlofkkaaDoor.X Go.Proofs.YtepooaejlofkkaaDoorW.PrintWords Go.Proofs.YtepooaejlofkkaaDoorW.PrintLast Go.Proofs.YtepooaejlofkkaaDoorW.PrintMore
attribute [local go_sem] max2_int min2_int max_two min_two max_three min_three max_four min_four   -- for this text's walks alone
set_option linter.unusedVariables false
set_option linter.unusedSimpArgs false

/-! ### spec_NumberDigits: function 20 -/
mutual
def spec_NumberDigits.l0 : Nat → Int → List Int → Option (List Int × Int)
  | 0, _, _ => none
  | k + 1, x0, x4 => if x0 > 0 then ((some (([(Int.tmod x0 10) % 256] : List Int) : List Int)).bind fun y269 => (if y269.length + x4.length < 140737488355328 then (spec_NumberDigits.l0 k (IntKind.u64.wrap (Int.tdiv x0 10)) (y269 ++ x4)) else (none))) else (spec_NumberDigits.l1 k x4 (wrap64 ((x4.length : Int) - 1)))
def spec_NumberDigits.l1 : Nat → List Int → Int → Option (List Int × Int)
  | 0, _, _ => none
  | k + 1, x4, x5 => if (x4.length : Int) > 0 then (if 0 ≤ (wrap64 ((x4.length : Int) - 1)) then (if (wrap64 ((x4.length : Int) - 1)) < (x4.length : Int) then (if (rd x4 (wrap64 ((x4.length : Int) - 1))) = 0 then (if (wrap64 ((x4.length : Int) - 1)) ≤ (x4.length : Int) then (spec_NumberDigits.l1 k (x4.take ((wrap64 ((x4.length : Int) - 1)) : Int).toNat) x5) else (none)) else (some (x4, x5))) else (none)) else (none)) else (some (x4, x5))
end
def spec_NumberDigits.f (k : Nat) (a0 : Int) : Option (List Int × Int) := spec_NumberDigits.l0 k a0 ([] : List Int)
theorem spec_NumberDigits.mono_l : ∀ k, (∀ y0 y1, LeO (spec_NumberDigits.l0 k y0 y1) (spec_NumberDigits.l0 (k + 1) y0 y1)) ∧ (∀ y0 y1, LeO (spec_NumberDigits.l1 k y0 y1) (spec_NumberDigits.l1 (k + 1) y0 y1))
  | 0 => ⟨fun _ _ r h => by simp [spec_NumberDigits.l0] at h, fun _ _ r h => by simp [spec_NumberDigits.l1] at h⟩
  | k + 1 => by
    obtain ⟨ih0, ih1⟩ := spec_NumberDigits.mono_l k
    refine ⟨?_, ?_⟩
    · intro y0 y1
      unfold spec_NumberDigits.l0
      repeat' first
      | (with_reducible exact ih0 _ _)
      | (with_reducible exact ih1 _ _)
      | (with_reducible exact LeO.refl _)
      | (with_reducible exact LeO.none _)
      | (with_reducible refine LeO.ite ?_ ?_)
      | (with_reducible refine LeO.bind ?_ (fun _ => ?_))
      | exact ih0 _ _
      | exact ih1 _ _
      | exact LeO.none _
      | refine LeO.ite ?_ ?_
      | refine LeO.bind ?_ (fun _ => ?_)
    · intro y0 y1
      unfold spec_NumberDigits.l1
      repeat' first
      | (with_reducible exact ih0 _ _)
      | (with_reducible exact ih1 _ _)
      | (with_reducible exact LeO.refl _)
      | (with_reducible exact LeO.none _)
      | (with_reducible refine LeO.ite ?_ ?_)
      | (with_reducible refine LeO.bind ?_ (fun _ => ?_))
      | exact ih0 _ _
      | exact ih1 _ _
      | exact LeO.none _
      | refine LeO.ite ?_ ?_
      | refine LeO.bind ?_ (fun _ => ?_)
theorem spec_NumberDigits.mono : ∀ a0 k, LeO (spec_NumberDigits.f k a0) (spec_NumberDigits.f (k + 1) a0) := by
  intro a0 k
  obtain ⟨ih0, ih1⟩ := spec_NumberDigits.mono_l k
  unfold spec_NumberDigits.f
  repeat' first
      | (with_reducible exact ih0 _ _)
      | (with_reducible exact ih1 _ _)
      | (with_reducible exact LeO.refl _)
      | (with_reducible exact LeO.none _)
      | (with_reducible refine LeO.ite ?_ ?_)
      | (with_reducible refine LeO.bind ?_ (fun _ => ?_))
      | exact ih0 _ _
      | exact ih1 _ _
      | exact LeO.none _
      | refine LeO.ite ?_ ?_
      | refine LeO.bind ?_ (fun _ => ?_)
set_option maxHeartbeats 8000000 in
set_option maxRecDepth 100000 in
theorem spec_NumberDigits.calls (k : Nat) (a0 : Int) (r1 : List Int) (r2 : Int) (w : World) (h : spec_NumberDigits.f k a0 = some (r1, r2)) :
    Calls Tryd.prog 20 #[.int .u64 a0] w fun e w' => ∃ v0_ : Value, e = .returned (.tuple #[v0_, .int .i64 r2]) ∧ Kd.R (Kd.int .u8) 5 w' w.heap.size (fun _ => True) v0_ r1 ∧ Below w.heap.size w w' := by
  have HB := Aside0.mk (Below.refl w.heap.size w)
  have H : (spec_NumberDigits.l0 k a0 ([] : List Int)) = some (r1, r2) := h
  clear h
  have H' := Aside0.mk H
  clear H
  go_enter Tryd.func20, Tryd.ntmps20
  go_wp2
  go_loopg [0, 4] k (fun kq v0 v4 w' => ∃ (x0_1 : Int) (x4_1 : List Int), v0 = .int .u64 x0_1 ∧ Aside0 (spec_NumberDigits.l0 kq x0_1 x4_1 = some (r1, r2)) ∧ Aside0 (kq ≤ k) ∧ Aside0 (Kd.R (Kd.int .u8) 5 w' w.heap.size (fun _ => True) v4 x4_1) ∧ Aside0 (Below w.heap.size w w'))
  case atStart => exact ⟨(a0), (([] : List Int)), (by first | rfl | (simp; done) | (simp [*]; done)), H', ⟨Nat.le_refl _⟩, ⟨by first | exact Kd.R_nil _ _ _ _ _ | exact Kd.N_nil _ _ _ _ _ | exact Kd.V_nil _ _ _ _ _ | exact Kd.Q_nil _ _ _ _ _ | exact Kd.S_nil _ _ _ _ _⟩, ⟨by repeat (first | (with_reducible first | exact HB.out | apply below_alloc | apply pw_below_drewN | apply below_drew1) | exact HB.out)⟩⟩
  case round =>
    clear H'
    obtain ⟨x0_1, x4_1, rfl, HA, HK1, HO_4, HB⟩ := hrel
    cases gk with
    | zero => exact absurd HA.out (by simp [spec_NumberDigits.l0])
    | succ k1 =>
      have H := HA.out
      clear HA
      simp only [spec_NumberDigits.l0] at H
      by_cases c2 : x0_1 > 0
      · rw [if_pos c2] at H
        have c2b0 : decide (0 < x0_1) = true := decide_eq_true c2
        clear c2
        obtain ⟨y269, hy269⟩ : ∃ y_ : List Int, y_ = (([(Int.tmod x0_1 10) % 256] : List Int)) := ⟨_, rfl⟩
        replace H : (if y269.length + x4_1.length < 140737488355328 then (spec_NumberDigits.l0 k1 (IntKind.u64.wrap (Int.tdiv x0_1 10)) (y269 ++ x4_1)) else (none)) = some (r1, r2) := by first | (rw [hy269]; with_reducible exact H) | (have H2_ := (Option.bind_some _ _).symm.trans H; rw [hy269]; with_reducible exact H2_) | (have H2_ := (Option.bind_some _ _).symm.trans H; with_reducible exact H2_) | with_reducible exact H | (rw [hy269]; exact H) | exact H
        have Ny269 := Aside0.mk hy269
        clear hy269
        by_cases c3 : y269.length + x4_1.length < 140737488355328
        · rw [if_pos c3] at H
          have LMc3 := Aside0.mk c3
          clear c3
          obtain ⟨y272, hy272⟩ : ∃ y_ : List Int, y_ = (y269 ++ x4_1) := ⟨_, rfl⟩
          replace H : (spec_NumberDigits.l0 k1 (IntKind.u64.wrap (Int.tdiv x0_1 10)) y272) = some (r1, r2) := by first | (rw [hy272]; with_reducible exact H) | (have H2_ := (Option.bind_some _ _).symm.trans H; rw [hy272]; with_reducible exact H2_) | (have H2_ := (Option.bind_some _ _).symm.trans H; with_reducible exact H2_) | with_reducible exact H | (rw [hy272]; exact H) | exact H
          have Ny272 := Aside0.mk hy272
          clear hy272
          have H' := Aside0.mk H
          clear H
          go_wp2_with (first | ((with_reducible refine gate_dst (N := 11) rfl ?_); (try (refine gate_guard (by rfl) ?_; dsimp only)); refine Kd.R_lit (Kd.int .u8) _ 5 ?hg (N := 11) ?hd (xs := ([(Int.tmod x0_1 10) % 256] : List Int)) (inner := [.int .u8 ((Int.tmod x0_1 10) % 256)]) (ok := fun _ => True) (okp := fun _ => True) ?hr ?hp (fun _ hk => hk) trivial (Below.refl _ _) (Nat.le_refl _) (by simp) ?_; (case hd => rfl); (case hg => rfl); (case hr => first | (go_simp; done) | (go_simp; rfl)); (case hp => exact (Reps.one (show Kd.M (Kd.int .u8) _ _ _ ((Int.tmod x0_1 10) % 256) [.int .u8 ((Int.tmod x0_1 10) % 256)] from rfl) (Reps.none _ _))); intro v270 w4 ho5 hb hg_ hnew_; clear hg_ hnew_; (first | rw [← Ny269.out] at ho5 | (simp only [Int.reduceToNat] at ho5; rw [← Ny269.out] at ho5)); have n0_ := Aside0.mk (Kd.R_elder' (by (with_reducible repeat (first | apply Kd.R_alloc | apply Kd.R_drewN | apply Kd.R_drew)); exact HO_4.out) (Kd.R_base ho5) hb); have n1_ := Aside0.mk (Kd.R_lower (Kd.R_new' ho5 (Kd.R_lt (by (with_reducible repeat (first | apply Kd.R_alloc | apply Kd.R_drewN | apply Kd.R_drew)); exact HO_4.out))) (below_size (by repeat (first | (with_reducible first | exact HB.out | apply below_alloc | apply pw_below_drewN | apply below_drew1) | exact HB.out)))); have n2_ := Aside0.mk (below_step (by repeat (first | (with_reducible first | exact HB.out | apply below_alloc | apply pw_below_drewN | apply below_drew1) | exact HB.out)) hb); clear HO_4; clear HB; have HO_4 := n0_; have HO271 := n1_; have HB := n2_; clear n0_ n1_ n2_; clear hb ho5; obtain ⟨Ao7, co7, eo7⟩ := Kd.R_slice HO_4.out; subst eo7) | ((with_reducible refine gate_builtin (b := .append) (xs := #[.tmp 11, .tmp 12]) rfl ?_); (try (refine gate_guard (by rfl) ?_; dsimp only)); at_builtin; refine Kd.R_append_rows (Kd.int .u8) (w0 := w) w.heap.size rfl (.tmp 11) (.tmp 12) 22 5 (.int .u8 0) 1 rfl Tryd.underlying22 info5 rfl (by decide) (by omega) v270 y269 x4_1 _ _ _ (fun k_ => some k_ ≠ (.slice Ao7 x4_1.length co7 : Value).ownBlock) (fun _ => False) rfl rfl ?aO ?aR (fun _ _ h => h) (fun _ h => h.elim) ?aF ?aB ?aS ?aL ?_; (case aR => repeat (first | exact (Kd.R_reads' HO_4.out).2.2 | (with_reducible refine Kd.C_alloc ?_ _) | (with_reducible refine Kd.C_drewN ?_ _) | (with_reducible refine Kd.C_drew ?_))); (case aB => exact (by repeat (first | (with_reducible first | exact HB.out | apply below_alloc | apply pw_below_drewN | apply below_drew1) | exact HB.out))); (case aF => exact (fun k_ hk => Kd.fresh' (Kd.R_lt (by (with_reducible repeat (first | apply Kd.R_alloc | apply Kd.R_drewN | apply Kd.R_drew)); exact HO_4.out)) k_ hk)); (case aO => exact (by (with_reducible repeat (first | apply Kd.R_alloc | apply Kd.R_drewN | apply Kd.R_drew)); exact Kd.R_mono HO271.out (fun _ hk => hk.2))); (case aS => exact (below_size (by repeat (first | (with_reducible first | exact HB.out | apply below_alloc | apply pw_below_drewN | apply below_drew1) | exact HB.out)))); (case aL => have := LMc3.out; omega); intro v273 w6 ho hb hg hat; rw [← Ny272.out] at ho; have n0_ := Aside0.mk (Kd.R_after (ok := (fun _ => True)) (by (with_reducible repeat (first | apply Kd.R_alloc | apply Kd.R_drewN | apply Kd.R_drew)); exact HO_4.out) hg hat); have n1_ := Aside0.mk (hb); have n2_ := Aside0.mk (ho); clear HO_4; clear HB; clear HO271; have HO_4 := n0_; have HB := n1_; have HO274 := n2_; clear n0_ n1_ n2_; clear ho hb hg hat))
          go_roundg k1
          case measure => have := HK1.out; omega
          case rel => exact ⟨(IntKind.u64.wrap (Int.tdiv x0_1 10)), (y272), (by first | rfl | (simp; done) | (simp [*]; done)), H', ⟨by have := HK1.out; omega⟩, ⟨by (with_reducible repeat (first | apply Kd.R_alloc | apply Kd.R_drewN | apply Kd.R_drew)); exact Kd.R_mono HO274.out (fun _ hk => trivial)⟩, ⟨by repeat (first | (with_reducible first | exact HB.out | apply below_alloc | apply pw_below_drewN | apply below_drew1) | exact HB.out)⟩⟩
        · rw [if_neg c3] at H
          exact absurd H (by simp)
      · rw [if_neg c2] at H
        have c2b0 : decide (0 < x0_1) = false := decide_eq_false c2
        clear c2
        have H' := Aside0.mk H
        clear H
        obtain ⟨Ao8, co8, eo8⟩ := Kd.R_slice HO_4.out
        subst eo8
        go_wp2
        go_loopg [4] k1 (fun kq v4 w' => ∃ (x4_2 : List Int), Aside0 (spec_NumberDigits.l1 kq x4_2 (wrap64 ((x4_1.length : Int) - 1)) = some (r1, r2)) ∧ Aside0 (kq ≤ k1) ∧ Aside0 (Kd.R (Kd.int .u8) 5 w' w.heap.size (fun _ => True) v4 x4_2) ∧ Aside0 (Below w.heap.size w w'))
        case atStart => exact ⟨(x4_1), H', ⟨Nat.le_refl _⟩, ⟨by (with_reducible repeat (first | apply Kd.R_alloc | apply Kd.R_drewN | apply Kd.R_drew)); exact HO_4.out⟩, ⟨by repeat (first | (with_reducible first | exact HB.out | apply below_alloc | apply pw_below_drewN | apply below_drew1) | exact HB.out)⟩⟩
        case round =>
          clear H'
          try clear c2
          try clear c2b0
          try clear p2
          try clear c3
          try clear p6
          obtain ⟨x4_2, HA, HK2, HO_4, HB⟩ := hrel
          cases gk with
          | zero => exact absurd HA.out (by simp [spec_NumberDigits.l1])
          | succ k2 =>
            have H := HA.out
            clear HA
            simp only [spec_NumberDigits.l1] at H
            by_cases c9 : (x4_2.length : Int) > 0
            · rw [if_pos c9] at H
              have c9b0 : decide (0 < (x4_2.length : Int)) = true := decide_eq_true c9
              have c9b1 : decide (0 < x4_2.length) = true := decide_eq_true (by omega)
              clear c9
              obtain ⟨ji10, hji10⟩ : ∃ j_ : Int, (wrap64 ((x4_2.length : Int) - 1)) = j_ := ⟨_, rfl⟩
              replace H : (if 0 ≤ (ji10) then (if (ji10) < (x4_2.length : Int) then (if (rd x4_2 (ji10)) = 0 then (if (ji10) ≤ (x4_2.length : Int) then (spec_NumberDigits.l1 k2 (x4_2.take ((ji10) : Int).toNat) (wrap64 ((x4_1.length : Int) - 1))) else (none)) else (some (x4_2, (wrap64 ((x4_1.length : Int) - 1))))) else (none)) else (none)) = some (r1, r2) := by first | (rw [hji10] at H; exact H) | (simp only [hji10] at H ⊢; exact H)
              have hji10w : (IntKind.i64.wrap ((x4_2.length : Int) - 1)) = ji10 := (i64_w _).trans hji10
              by_cases c11 : 0 ≤ (ji10)
              · rw [if_pos c11] at H
                have c11b0 : decide (0 ≤ (ji10)) = true := decide_eq_true c11
                clear c11
                by_cases c12 : (ji10) < (x4_2.length : Int)
                · rw [if_pos c12] at H
                  have c12b0 : decide ((ji10) < (x4_2.length : Int)) = true := decide_eq_true c12
                  clear c12
                  by_cases c13 : (rd x4_2 (ji10)) = 0
                  · rw [if_pos c13] at H
                    have c13b0 : ((rd x4_2 (ji10)) == 0) = true := beq_iff_eq.mpr c13
                    have c13b1 : ((rd x4_2 (ji10)) != 0) = false := bne_eq_false_iff_eq.mpr c13
                    clear c13
                    by_cases c14 : (ji10) ≤ (x4_2.length : Int)
                    · rw [if_pos c14] at H
                      have c14b0 := eq_true c14
                      have c14b1 : decide ((ji10) ≤ (x4_2.length : Int)) = true := decide_eq_true c14
                      clear c14
                      obtain ⟨y276, hy276⟩ : ∃ y_ : List Int, y_ = (x4_2.take ((ji10) : Int).toNat) := ⟨_, rfl⟩
                      replace H : (spec_NumberDigits.l1 k2 y276 (wrap64 ((x4_1.length : Int) - 1))) = some (r1, r2) := by first | (rw [hy276]; with_reducible exact H) | (have H2_ := (Option.bind_some _ _).symm.trans H; rw [hy276]; with_reducible exact H2_) | (have H2_ := (Option.bind_some _ _).symm.trans H; with_reducible exact H2_) | with_reducible exact H | (rw [hy276]; exact H) | exact H
                      have Ny276 := Aside0.mk hy276
                      clear hy276
                      have H' := Aside0.mk H
                      clear H
                      obtain ⟨Ao15, co15, eo15⟩ := Kd.R_slice HO_4.out
                      subst eo15
                      have p275 : 0 ≤ ((ji10) : Int) := of_decide_eq_true (by first | (with_reducible assumption) | assumption)
                      have q275 : (ji10) < (x4_2.length : Int) := of_decide_eq_true (by first | (with_reducible assumption) | assumption)
                      obtain ⟨ad275, e275, hx275_0⟩ := Kd.at_int (Kd.R_reads' HO_4.out).2.2 (ji10) p275 q275
                      cases e275
                      replace p275 := eq_true p275
                      replace q275 := eq_true q275
                      have q16 : ((ji10) : Int) ≤ ((x4_2.length : Int) : Int) := of_decide_eq_true (by first | (with_reducible assumption) | assumption)
                      obtain ⟨i016, hi016, _, hsz16, _⟩ := info_parts info5
                      have hcut16 := cut_to (P := Tryd.prog) 22 5 .i64 Tryd.underlying22 hi016 (some ad275) x4_2.length co15 (ji10) (of_decide_eq_true (by first | (with_reducible assumption) | assumption)) q16 (Kd.R_reads' HO_4.out).2.1
                      have hr16 := Kd.R_take (m := ((ji10) : Int).toNat) HO_4.out (by omega)
                      have hy16 : y276.length = ((ji10) : Int).toNat := (by rw [Ny276.out, List.length_take]; omega)
                      rw [← Ny276.out] at hr16
                      rw [← hy16] at hr16 hcut16
                      clear hy16 hi016 hsz16 HO_4
                      have HO278 := Aside0.mk hr16
                      clear hr16
                      replace q16 := eq_true q16
                      go_wp2
                      go_roundg k2
                      case measure => have := HK1.out; have := HK2.out; omega
                      case rel => exact ⟨(y276), H', ⟨by have := HK1.out; have := HK2.out; omega⟩, ⟨by (with_reducible repeat (first | apply Kd.R_alloc | apply Kd.R_drewN | apply Kd.R_drew)); exact HO278.out⟩, ⟨by repeat (first | (with_reducible first | exact HB.out | apply below_alloc | apply pw_below_drewN | apply below_drew1) | exact HB.out)⟩⟩
                    · rw [if_neg c14] at H
                      exact absurd H (by simp)
                  · rw [if_neg c13] at H
                    have c13b0 : ((rd x4_2 (ji10)) == 0) = false := beq_eq_false_iff_ne.mpr c13
                    have c13b1 : ((rd x4_2 (ji10)) != 0) = true := bne_iff_ne.mpr c13
                    simp only [Option.some.injEq, Prod.mk.injEq] at H
                    obtain ⟨rfl, rfl⟩ := H
                    obtain ⟨Ao17, co17, eo17⟩ := Kd.R_slice HO_4.out
                    subst eo17
                    have p275 : 0 ≤ ((ji10) : Int) := of_decide_eq_true (by first | (with_reducible assumption) | assumption)
                    have q275 : (ji10) < (x4_2.length : Int) := of_decide_eq_true (by first | (with_reducible assumption) | assumption)
                    obtain ⟨ad275, e275, hx275_0⟩ := Kd.at_int (Kd.R_reads' HO_4.out).2.2 (ji10) p275 q275
                    cases e275
                    replace p275 := eq_true p275
                    replace q275 := eq_true q275
                    go_wp2
                    go_ret2
                    exact ⟨_, by first | rfl | (simp [errW_none, errW_some] <;> rfl) | (simp only [← hji10]; first | rfl | (simp [errW_none, errW_some] <;> rfl)) | (simp [*, errW_none, errW_some] <;> rfl), by (with_reducible repeat (first | apply Kd.R_alloc | apply Kd.R_drewN | apply Kd.R_drew)); exact HO_4.out, by repeat (first | (with_reducible first | exact HB.out | apply below_alloc | apply pw_below_drewN | apply below_drew1) | exact HB.out)⟩
                · rw [if_neg c12] at H
                  exact absurd H (by simp)
              · rw [if_neg c11] at H
                exact absurd H (by simp)
            · rw [if_neg c9] at H
              have c9b0 : decide (0 < (x4_2.length : Int)) = false := decide_eq_false c9
              have c9b1 : decide (0 < x4_2.length) = false := decide_eq_false (by omega)
              clear c9
              simp only [Option.some.injEq, Prod.mk.injEq] at H
              obtain ⟨rfl, rfl⟩ := H
              obtain ⟨Ao18, co18, eo18⟩ := Kd.R_slice HO_4.out
              subst eo18
              go_wp2
              go_ret2
              exact ⟨_, by first | rfl | (simp [errW_none, errW_some] <;> rfl) | (simp [*, errW_none, errW_some] <;> rfl), by (with_reducible repeat (first | apply Kd.R_alloc | apply Kd.R_drewN | apply Kd.R_drew)); exact HO_4.out, by repeat (first | (with_reducible first | exact HB.out | apply below_alloc | apply pw_below_drewN | apply below_drew1) | exact HB.out)⟩

/-! ### laws_numberSize: function 21 -/
def laws_numberSize.f (a0 : Int) : Option (Int) := if a0 < 0 then (some (IntKind.u64.wrap (-(IntKind.u64.wrap (a0))))) else (some (IntKind.u64.wrap (a0)))
set_option maxHeartbeats 8000000 in
set_option maxRecDepth 100000 in
theorem laws_numberSize.calls (a0 : Int) (r : Int) (w : World) (h : laws_numberSize.f a0 = some r) :
    Calls Tryd.prog 21 #[.int .i64 a0] w fun e w' => e = .returned (.int .u64 r) ∧ Drawn0 w w' := by
  have H : (if a0 < 0 then (some (IntKind.u64.wrap (-(IntKind.u64.wrap (a0))))) else (some (IntKind.u64.wrap (a0)))) = some r := h
  clear h
  by_cases c2 : a0 < 0
  · rw [if_pos c2] at H
    have c2b0 : decide (a0 < 0) = true := decide_eq_true c2
    clear c2
    obtain rfl := Option.some.inj H
    go_enter Tryd.func21, Tryd.ntmps21
    go_wp2
    go_ret
    exact ⟨by first | rfl | (simp; done) | (simp [*]; done), by repeat (first | exact Drawn0.refl _ | apply Drawn0.step)⟩
  · rw [if_neg c2] at H
    have c2b0 : decide (a0 < 0) = false := decide_eq_false c2
    clear c2
    obtain rfl := Option.some.inj H
    go_enter Tryd.func21, Tryd.ntmps21
    go_wp2
    go_ret
    exact ⟨by first | rfl | (simp; done) | (simp [*]; done), by repeat (first | exact Drawn0.refl _ | apply Drawn0.step)⟩

/-! ### impl_NumberTaken: function 22 -/
def impl_NumberTaken.f (k : Nat) (l0 : List Int) : Option (Int × Bool × Int × Int × Bool) := (bytes_Clone.f l0).bind fun t279 => ((converters_FromNumber.f k t279).bind fun bt282 => (if bt282.2.2.2.2.isNone = true then (some (bt282.1, bt282.2.1, bt282.2.2.1, bt282.2.2.2.1, true)) else (some (bt282.1, bt282.2.1, bt282.2.2.1, bt282.2.2.2.1, false))))
theorem impl_NumberTaken.mono : ∀ a0 k, LeO (impl_NumberTaken.f k a0) (impl_NumberTaken.f (k + 1) a0) := by
  intro a0 k
  unfold impl_NumberTaken.f
  repeat' first
      | (with_reducible exact converters_FromNumber.mono _ _)
      | (with_reducible exact LeO.refl _)
      | (with_reducible exact LeO.none _)
      | (with_reducible refine LeO.ite ?_ ?_)
      | (with_reducible refine LeO.bind ?_ (fun _ => ?_))
      | exact converters_FromNumber.mono _ _
      | exact LeO.none _
      | refine LeO.ite ?_ ?_
      | refine LeO.bind ?_ (fun _ => ?_)
set_option maxHeartbeats 8000000 in
set_option maxRecDepth 100000 in
theorem impl_NumberTaken.calls (k : Nat) (A0 : Option Addr) (c0 : Nat) (l0 : List Int) (r1 : Int) (r2 : Bool) (r3 : Int) (r4 : Int) (r5 : Bool) (w : World) (hr0 : Kd.C (Kd.int .u8) w A0 l0.length l0) (hc0 : l0.length ≤ c0) (h : impl_NumberTaken.f k l0 = some (r1, r2, r3, r4, r5)) :
    Calls Tryd.prog 22 #[.slice A0 l0.length c0] w fun e w' => e = .returned (.tuple #[.int .u64 r1, .bool r2, .int .i64 r3, .int .i64 r4, .bool r5]) ∧ Below w.heap.size w w' := by
  have hu50 := Tryd.underlying50
  have HR0 := Aside0.mk hr0
  have HC0 := Aside0.mk hc0
  clear hr0 hc0
  have HB := Aside0.mk (Below.refl w.heap.size w)
  have H : ((bytes_Clone.f l0).bind fun t279 => ((converters_FromNumber.f k t279).bind fun bt282 => (if bt282.2.2.2.2.isNone = true then (some (bt282.1, bt282.2.1, bt282.2.2.1, bt282.2.2.2.1, true)) else (some (bt282.1, bt282.2.1, bt282.2.2.1, bt282.2.2.2.1, false))))) = some (r1, r2, r3, r4, r5) := h
  clear h
  replace H := Option.bind_eq_some_iff.mp H
  obtain ⟨t279, A20, H⟩ := H
  replace H : ((converters_FromNumber.f k t279).bind fun bt282 => (if bt282.2.2.2.2.isNone = true then (some (bt282.1, bt282.2.1, bt282.2.2.1, bt282.2.2.2.1, true)) else (some (bt282.1, bt282.2.1, bt282.2.2.1, bt282.2.2.2.1, false)))) = some (r1, r2, r3, r4, r5) := H
  have A2 := Aside0.mk A20
  clear A20
  replace H := Option.bind_eq_some_iff.mp H
  obtain ⟨⟨t282, t283, t284, t285, t286⟩, A30, H⟩ := H
  replace H : (if t286.isNone = true then (some (t282, t283, t284, t285, true)) else (some (t282, t283, t284, t285, false))) = some (r1, r2, r3, r4, r5) := H
  have A3 := Aside0.mk A30
  clear A30
  rcases t286 with _ | q287
  · have H1 : (some (t282, t283, t284, t285, true)) = some (r1, r2, r3, r4, r5) := by rw [if_pos (show (none : Option Int).isNone = true by rfl)] at H; exact H
    clear H
    have H := H1
    clear H1
    try simp only [errW_none, errW_some]
    simp only [Option.some.injEq, Prod.mk.injEq] at H
    obtain ⟨rfl, rfl, rfl, rfl, rfl⟩ := H
    go_enter Tryd.func22, Tryd.ntmps22
    go_wp2_with (first | (go_at_call 27; (with_reducible refine (bytes_Clone.calls _ _ l0 t279 _ ?side1 ?side2 A2.out).mono ?_); (case side1 => repeat (first | exact HR0.out | (with_reducible refine Kd.C_alloc ?_ _) | (with_reducible refine Kd.C_drewN ?_ _) | (with_reducible refine Kd.C_drew ?_))); (case side2 => exact HC0.out); rintro e w4 ⟨v280, rfl, ho0, hb⟩; have n0_ := Aside0.mk (Kd.R_lower ho0 (below_size (by repeat (first | (with_reducible first | exact HB.out | apply below_alloc | apply pw_below_drewN | apply below_drew1) | exact HB.out)))); have n1_ := Aside0.mk (below_step (by repeat (first | (with_reducible first | exact HB.out | apply below_alloc | apply pw_below_drewN | apply below_drew1) | exact HB.out)) hb); clear HB; have HO281 := n0_; have HB := n1_; clear n0_ n1_; (try clear hb); (try clear hb2); (try clear hk); (try clear hi); (try clear ho0); obtain ⟨Ao5, co5, eo5⟩ := Kd.R_slice HO281.out; subst eo5) | (go_at_call 35; (with_reducible refine (converters_FromNumber.calls k (fun k_ => some k_ = (.slice Ao5 t279.length co5 : Value).ownBlock) _ _ t279 t282 t283 t284 t285 none _ ?side1 A3.out).mono ?_); (case side1 => exact Kd.R_V (Kd.R_tight rfl (HO281.out))); rintro e w6 ⟨rfl, hb⟩; have n0_ := Aside0.mk (Kd.R_below (by (with_reducible repeat (first | apply Kd.R_alloc | apply Kd.R_drewN | apply Kd.R_drew)); exact HO281.out) hb); have n1_ := Aside0.mk (below_step (by repeat (first | (with_reducible first | exact HB.out | apply below_alloc | apply pw_below_drewN | apply below_drew1) | exact HB.out)) hb); clear HO281; clear HB; have HO281 := n0_; have HB := n1_; clear n0_ n1_; (try clear hb); (try clear hb2); (try clear hk); (try clear hi); (try simp only [errW_none, errW_some])))
    repeat (go_quiet (first | (go_at_call 27; (with_reducible refine (bytes_Clone.calls _ _ l0 t279 _ ?side1 ?side2 A2.out).mono ?_); (case side1 => repeat (first | exact HR0.out | (with_reducible refine Kd.C_alloc ?_ _) | (with_reducible refine Kd.C_drewN ?_ _) | (with_reducible refine Kd.C_drew ?_))); (case side2 => exact HC0.out); rintro e w4 ⟨v280, rfl, ho0, hb⟩; have n0_ := Aside0.mk (Kd.R_lower ho0 (below_size (by repeat (first | (with_reducible first | exact HB.out | apply below_alloc | apply pw_below_drewN | apply below_drew1) | exact HB.out)))); have n1_ := Aside0.mk (below_step (by repeat (first | (with_reducible first | exact HB.out | apply below_alloc | apply pw_below_drewN | apply below_drew1) | exact HB.out)) hb); clear HB; have HO281 := n0_; have HB := n1_; clear n0_ n1_; (try clear hb); (try clear hb2); (try clear hk); (try clear hi); (try clear ho0); obtain ⟨Ao5, co5, eo5⟩ := Kd.R_slice HO281.out; subst eo5) | (go_at_call 35; (with_reducible refine (converters_FromNumber.calls k (fun k_ => some k_ = (.slice Ao5 t279.length co5 : Value).ownBlock) _ _ t279 t282 t283 t284 t285 none _ ?side1 A3.out).mono ?_); (case side1 => exact Kd.R_V (Kd.R_tight rfl (HO281.out))); rintro e w6 ⟨rfl, hb⟩; have n0_ := Aside0.mk (Kd.R_below (by (with_reducible repeat (first | apply Kd.R_alloc | apply Kd.R_drewN | apply Kd.R_drew)); exact HO281.out) hb); have n1_ := Aside0.mk (below_step (by repeat (first | (with_reducible first | exact HB.out | apply below_alloc | apply pw_below_drewN | apply below_drew1) | exact HB.out)) hb); clear HO281; clear HB; have HO281 := n0_; have HB := n1_; clear n0_ n1_; (try clear hb); (try clear hb2); (try clear hk); (try clear hi); (try simp only [errW_none, errW_some]))); try go_wp2_with (first | (go_at_call 27; (with_reducible refine (bytes_Clone.calls _ _ l0 t279 _ ?side1 ?side2 A2.out).mono ?_); (case side1 => repeat (first | exact HR0.out | (with_reducible refine Kd.C_alloc ?_ _) | (with_reducible refine Kd.C_drewN ?_ _) | (with_reducible refine Kd.C_drew ?_))); (case side2 => exact HC0.out); rintro e w4 ⟨v280, rfl, ho0, hb⟩; have n0_ := Aside0.mk (Kd.R_lower ho0 (below_size (by repeat (first | (with_reducible first | exact HB.out | apply below_alloc | apply pw_below_drewN | apply below_drew1) | exact HB.out)))); have n1_ := Aside0.mk (below_step (by repeat (first | (with_reducible first | exact HB.out | apply below_alloc | apply pw_below_drewN | apply below_drew1) | exact HB.out)) hb); clear HB; have HO281 := n0_; have HB := n1_; clear n0_ n1_; (try clear hb); (try clear hb2); (try clear hk); (try clear hi); (try clear ho0); obtain ⟨Ao5, co5, eo5⟩ := Kd.R_slice HO281.out; subst eo5) | (go_at_call 35; (with_reducible refine (converters_FromNumber.calls k (fun k_ => some k_ = (.slice Ao5 t279.length co5 : Value).ownBlock) _ _ t279 t282 t283 t284 t285 none _ ?side1 A3.out).mono ?_); (case side1 => exact Kd.R_V (Kd.R_tight rfl (HO281.out))); rintro e w6 ⟨rfl, hb⟩; have n0_ := Aside0.mk (Kd.R_below (by (with_reducible repeat (first | apply Kd.R_alloc | apply Kd.R_drewN | apply Kd.R_drew)); exact HO281.out) hb); have n1_ := Aside0.mk (below_step (by repeat (first | (with_reducible first | exact HB.out | apply below_alloc | apply pw_below_drewN | apply below_drew1) | exact HB.out)) hb); clear HO281; clear HB; have HO281 := n0_; have HB := n1_; clear n0_ n1_; (try clear hb); (try clear hb2); (try clear hk); (try clear hi); (try simp only [errW_none, errW_some]))))
    refine bodyPost_ret (results_list (rs := [.tmp 2, .tmp 3, .tmp 4, .tmp 5, .tmp 6]) rfl (by simp) (.tmp (.tmp (.tmp (.tmp (.tmp .nil)))))) rfl ?_
    exact ⟨by first | rfl | (simp [errW_none, errW_some] <;> rfl) | (simp [*, errW_none, errW_some] <;> rfl), by repeat (first | (with_reducible first | exact HB.out | apply below_alloc | apply pw_below_drewN | apply below_drew1) | exact HB.out)⟩
  · have H1 : (some (t282, t283, t284, t285, false)) = some (r1, r2, r3, r4, r5) := by rw [if_neg (show ¬ (some q287).isNone = true by simp)] at H; exact H
    clear H
    have H := H1
    clear H1
    try simp only [errW_none, errW_some]
    simp only [Option.some.injEq, Prod.mk.injEq] at H
    obtain ⟨rfl, rfl, rfl, rfl, rfl⟩ := H
    go_enter Tryd.func22, Tryd.ntmps22
    go_wp2_with (first | (go_at_call 27; (with_reducible refine (bytes_Clone.calls _ _ l0 t279 _ ?side1 ?side2 A2.out).mono ?_); (case side1 => repeat (first | exact HR0.out | (with_reducible refine Kd.C_alloc ?_ _) | (with_reducible refine Kd.C_drewN ?_ _) | (with_reducible refine Kd.C_drew ?_))); (case side2 => exact HC0.out); rintro e w7 ⟨v280, rfl, ho0, hb⟩; have n0_ := Aside0.mk (Kd.R_lower ho0 (below_size (by repeat (first | (with_reducible first | exact HB.out | apply below_alloc | apply pw_below_drewN | apply below_drew1) | exact HB.out)))); have n1_ := Aside0.mk (below_step (by repeat (first | (with_reducible first | exact HB.out | apply below_alloc | apply pw_below_drewN | apply below_drew1) | exact HB.out)) hb); clear HB; have HO281 := n0_; have HB := n1_; clear n0_ n1_; (try clear hb); (try clear hb2); (try clear hk); (try clear hi); (try clear ho0); obtain ⟨Ao8, co8, eo8⟩ := Kd.R_slice HO281.out; subst eo8) | (go_at_call 35; (with_reducible refine (converters_FromNumber.calls k (fun k_ => some k_ = (.slice Ao8 t279.length co8 : Value).ownBlock) _ _ t279 t282 t283 t284 t285 (some q287) _ ?side1 A3.out).mono ?_); (case side1 => exact Kd.R_V (Kd.R_tight rfl (HO281.out))); rintro e w9 ⟨rfl, hb⟩; have n0_ := Aside0.mk (Kd.R_below (by (with_reducible repeat (first | apply Kd.R_alloc | apply Kd.R_drewN | apply Kd.R_drew)); exact HO281.out) hb); have n1_ := Aside0.mk (below_step (by repeat (first | (with_reducible first | exact HB.out | apply below_alloc | apply pw_below_drewN | apply below_drew1) | exact HB.out)) hb); clear HO281; clear HB; have HO281 := n0_; have HB := n1_; clear n0_ n1_; (try clear hb); (try clear hb2); (try clear hk); (try clear hi); (try simp only [errW_none, errW_some])))
    repeat (go_quiet (first | (go_at_call 27; (with_reducible refine (bytes_Clone.calls _ _ l0 t279 _ ?side1 ?side2 A2.out).mono ?_); (case side1 => repeat (first | exact HR0.out | (with_reducible refine Kd.C_alloc ?_ _) | (with_reducible refine Kd.C_drewN ?_ _) | (with_reducible refine Kd.C_drew ?_))); (case side2 => exact HC0.out); rintro e w7 ⟨v280, rfl, ho0, hb⟩; have n0_ := Aside0.mk (Kd.R_lower ho0 (below_size (by repeat (first | (with_reducible first | exact HB.out | apply below_alloc | apply pw_below_drewN | apply below_drew1) | exact HB.out)))); have n1_ := Aside0.mk (below_step (by repeat (first | (with_reducible first | exact HB.out | apply below_alloc | apply pw_below_drewN | apply below_drew1) | exact HB.out)) hb); clear HB; have HO281 := n0_; have HB := n1_; clear n0_ n1_; (try clear hb); (try clear hb2); (try clear hk); (try clear hi); (try clear ho0); obtain ⟨Ao8, co8, eo8⟩ := Kd.R_slice HO281.out; subst eo8) | (go_at_call 35; (with_reducible refine (converters_FromNumber.calls k (fun k_ => some k_ = (.slice Ao8 t279.length co8 : Value).ownBlock) _ _ t279 t282 t283 t284 t285 (some q287) _ ?side1 A3.out).mono ?_); (case side1 => exact Kd.R_V (Kd.R_tight rfl (HO281.out))); rintro e w9 ⟨rfl, hb⟩; have n0_ := Aside0.mk (Kd.R_below (by (with_reducible repeat (first | apply Kd.R_alloc | apply Kd.R_drewN | apply Kd.R_drew)); exact HO281.out) hb); have n1_ := Aside0.mk (below_step (by repeat (first | (with_reducible first | exact HB.out | apply below_alloc | apply pw_below_drewN | apply below_drew1) | exact HB.out)) hb); clear HO281; clear HB; have HO281 := n0_; have HB := n1_; clear n0_ n1_; (try clear hb); (try clear hb2); (try clear hk); (try clear hi); (try simp only [errW_none, errW_some]))); try go_wp2_with (first | (go_at_call 27; (with_reducible refine (bytes_Clone.calls _ _ l0 t279 _ ?side1 ?side2 A2.out).mono ?_); (case side1 => repeat (first | exact HR0.out | (with_reducible refine Kd.C_alloc ?_ _) | (with_reducible refine Kd.C_drewN ?_ _) | (with_reducible refine Kd.C_drew ?_))); (case side2 => exact HC0.out); rintro e w7 ⟨v280, rfl, ho0, hb⟩; have n0_ := Aside0.mk (Kd.R_lower ho0 (below_size (by repeat (first | (with_reducible first | exact HB.out | apply below_alloc | apply pw_below_drewN | apply below_drew1) | exact HB.out)))); have n1_ := Aside0.mk (below_step (by repeat (first | (with_reducible first | exact HB.out | apply below_alloc | apply pw_below_drewN | apply below_drew1) | exact HB.out)) hb); clear HB; have HO281 := n0_; have HB := n1_; clear n0_ n1_; (try clear hb); (try clear hb2); (try clear hk); (try clear hi); (try clear ho0); obtain ⟨Ao8, co8, eo8⟩ := Kd.R_slice HO281.out; subst eo8) | (go_at_call 35; (with_reducible refine (converters_FromNumber.calls k (fun k_ => some k_ = (.slice Ao8 t279.length co8 : Value).ownBlock) _ _ t279 t282 t283 t284 t285 (some q287) _ ?side1 A3.out).mono ?_); (case side1 => exact Kd.R_V (Kd.R_tight rfl (HO281.out))); rintro e w9 ⟨rfl, hb⟩; have n0_ := Aside0.mk (Kd.R_below (by (with_reducible repeat (first | apply Kd.R_alloc | apply Kd.R_drewN | apply Kd.R_drew)); exact HO281.out) hb); have n1_ := Aside0.mk (below_step (by repeat (first | (with_reducible first | exact HB.out | apply below_alloc | apply pw_below_drewN | apply below_drew1) | exact HB.out)) hb); clear HO281; clear HB; have HO281 := n0_; have HB := n1_; clear n0_ n1_; (try clear hb); (try clear hb2); (try clear hk); (try clear hi); (try simp only [errW_none, errW_some]))))
    refine bodyPost_ret (results_list (rs := [.tmp 2, .tmp 3, .tmp 4, .tmp 5, .tmp 6]) rfl (by simp) (.tmp (.tmp (.tmp (.tmp (.tmp .nil)))))) rfl ?_
    exact ⟨by first | rfl | (simp [errW_none, errW_some] <;> rfl) | (simp [*, errW_none, errW_some] <;> rfl), by repeat (first | (with_reducible first | exact HB.out | apply below_alloc | apply pw_below_drewN | apply below_drew1) | exact HB.out)⟩

-- GIVEN: function 23 (bytes_Equal)

/-! ### laws_FnNumberMoney: function 6 -/
def laws_FnNumberMoney.f (k : Nat) (a0 : Int) : Option (Bool) := (laws_numberSize.f (Int.tmod a0 1000000000000000)).bind fun t288 => ((spec_NumberDigits.f k t288).bind fun bt289 => (if (Int.tmod a0 1000000000000000) = 0 then ((laws_numberAwake.f k).bind fun t293 => (some t293)) else ((laws_numberLetters.f k bt289.1).bind fun t294 => ((impl_NumberMade.f t294 (decide ((Int.tmod a0 1000000000000000) < 0)) (wrap64 (bt289.2 - 2))).bind fun t297 => ((impl_NumberTaken.f k t297).bind fun bt300 => ((spec_NumberDigits.f k bt300.1).bind fun bt305 => (if bt300.2.2.2.2 = true then (if (bt300.2.1 == (decide ((Int.tmod a0 1000000000000000) < 0))) = true then ((bytes_Equal.f bt305.1 bt289.1).bind fun t309 => (if t309 = true then (if (wrap64 (bt305.2 + bt300.2.2.1)) = (wrap64 (bt289.2 - 2)) then ((laws_numberAwake.f k).bind fun t310 => (some t310)) else (none)) else (none))) else (none)) else (none))))))))
theorem laws_FnNumberMoney.mono : ∀ a0 k, LeO (laws_FnNumberMoney.f k a0) (laws_FnNumberMoney.f (k + 1) a0) := by
  intro a0 k
  unfold laws_FnNumberMoney.f
  repeat' first
      | (with_reducible exact impl_NumberTaken.mono _ _)
      | (with_reducible exact laws_numberAwake.mono _)
      | (with_reducible exact laws_numberLetters.mono _ _)
      | (with_reducible exact spec_NumberDigits.mono _ _)
      | (with_reducible exact LeO.refl _)
      | (with_reducible exact LeO.none _)
      | (with_reducible refine LeO.ite ?_ ?_)
      | (with_reducible refine LeO.bind ?_ (fun _ => ?_))
      | exact impl_NumberTaken.mono _ _
      | exact laws_numberAwake.mono _
      | exact laws_numberLetters.mono _ _
      | exact spec_NumberDigits.mono _ _
      | exact LeO.none _
      | refine LeO.ite ?_ ?_
      | refine LeO.bind ?_ (fun _ => ?_)
set_option maxHeartbeats 8000000 in
set_option maxRecDepth 100000 in
theorem laws_FnNumberMoney.calls (k : Nat) (a0 : Int) (r : Bool) (w : World) (h : laws_FnNumberMoney.f k a0 = some r) (htab : Tab w) :
    Calls Tryd.prog 6 #[.int .i64 a0] w fun e w' => e = .returned (.bool r) ∧ Below w.heap.size w w' := by
  have HT := Aside0.mk (tab_all htab)
  clear htab
  have HB := Aside0.mk (Below.refl w.heap.size w)
  have H : ((laws_numberSize.f (Int.tmod a0 1000000000000000)).bind fun t288 => ((spec_NumberDigits.f k t288).bind fun bt289 => (if (Int.tmod a0 1000000000000000) = 0 then ((laws_numberAwake.f k).bind fun t293 => (some t293)) else ((laws_numberLetters.f k bt289.1).bind fun t294 => ((impl_NumberMade.f t294 (decide ((Int.tmod a0 1000000000000000) < 0)) (wrap64 (bt289.2 - 2))).bind fun t297 => ((impl_NumberTaken.f k t297).bind fun bt300 => ((spec_NumberDigits.f k bt300.1).bind fun bt305 => (if bt300.2.2.2.2 = true then (if (bt300.2.1 == (decide ((Int.tmod a0 1000000000000000) < 0))) = true then ((bytes_Equal.f bt305.1 bt289.1).bind fun t309 => (if t309 = true then (if (wrap64 (bt305.2 + bt300.2.2.1)) = (wrap64 (bt289.2 - 2)) then ((laws_numberAwake.f k).bind fun t310 => (some t310)) else (none)) else (none))) else (none)) else (none))))))))) = some r := h
  clear h
  replace H := Option.bind_eq_some_iff.mp H
  obtain ⟨t288, A20, H⟩ := H
  replace H : ((spec_NumberDigits.f k t288).bind fun bt289 => (if (Int.tmod a0 1000000000000000) = 0 then ((laws_numberAwake.f k).bind fun t293 => (some t293)) else ((laws_numberLetters.f k bt289.1).bind fun t294 => ((impl_NumberMade.f t294 (decide ((Int.tmod a0 1000000000000000) < 0)) (wrap64 (bt289.2 - 2))).bind fun t297 => ((impl_NumberTaken.f k t297).bind fun bt300 => ((spec_NumberDigits.f k bt300.1).bind fun bt305 => (if bt300.2.2.2.2 = true then (if (bt300.2.1 == (decide ((Int.tmod a0 1000000000000000) < 0))) = true then ((bytes_Equal.f bt305.1 bt289.1).bind fun t309 => (if t309 = true then (if (wrap64 (bt305.2 + bt300.2.2.1)) = (wrap64 (bt289.2 - 2)) then ((laws_numberAwake.f k).bind fun t310 => (some t310)) else (none)) else (none))) else (none)) else (none)))))))) = some r := H
  have A2 := Aside0.mk A20
  clear A20
  replace H := Option.bind_eq_some_iff.mp H
  obtain ⟨⟨t289, t290⟩, A30, H⟩ := H
  replace H : (if (Int.tmod a0 1000000000000000) = 0 then ((laws_numberAwake.f k).bind fun t293 => (some t293)) else ((laws_numberLetters.f k t289).bind fun t294 => ((impl_NumberMade.f t294 (decide ((Int.tmod a0 1000000000000000) < 0)) (wrap64 (t290 - 2))).bind fun t297 => ((impl_NumberTaken.f k t297).bind fun bt300 => ((spec_NumberDigits.f k bt300.1).bind fun bt305 => (if bt300.2.2.2.2 = true then (if (bt300.2.1 == (decide ((Int.tmod a0 1000000000000000) < 0))) = true then ((bytes_Equal.f bt305.1 t289).bind fun t309 => (if t309 = true then (if (wrap64 (bt305.2 + bt300.2.2.1)) = (wrap64 (t290 - 2)) then ((laws_numberAwake.f k).bind fun t310 => (some t310)) else (none)) else (none))) else (none)) else (none))))))) = some r := H
  have A3 := Aside0.mk A30
  clear A30
  by_cases c4 : (Int.tmod a0 1000000000000000) = 0
  · rw [if_pos c4] at H
    have c4b0 : ((Int.tmod a0 1000000000000000) == 0) = true := beq_iff_eq.mpr c4
    have c4b1 : ((Int.tmod a0 1000000000000000) != 0) = false := bne_eq_false_iff_eq.mpr c4
    clear c4
    replace H := Option.bind_eq_some_iff.mp H
    obtain ⟨t293, A50, H⟩ := H
    replace H : (some t293) = some r := H
    have A5 := Aside0.mk A50
    clear A50
    obtain rfl := Option.some.inj H
    go_enter Tryd.func6, Tryd.ntmps6
    go_wp2_with (first | ((with_reducible refine gate_callee (f := 21) rfl ?_); refine goesL_ (some 16) rfl rfl Tryd.func21 (by kernel_rfl) rfl #[.int .i64 (Int.tmod a0 1000000000000000)] rfl (by (try simp only [List.map_toArray, List.map_cons, List.map_nil]); first | done | rfl | (simp only [List.length_drop, List.length_take]; rfl)) ?_; (with_reducible refine (laws_numberSize.calls (Int.tmod a0 1000000000000000) t288 _ A2.out).mono ?_); rintro e w' ⟨rfl, ⟨nd, rfl⟩⟩; refine ⟨_, rfl, ?_⟩) | ((with_reducible refine gate_callee (f := 20) rfl ?_); refine goesL_ (some 17) rfl rfl Tryd.func20 (by kernel_rfl) rfl #[.int .u64 t288] rfl (by (try simp only [List.map_toArray, List.map_cons, List.map_nil]); first | done | rfl | (simp only [List.length_drop, List.length_take]; rfl)) ?_; (with_reducible refine (spec_NumberDigits.calls k t288 t289 t290 _ A3.out).mono ?_); rintro e w6 ⟨v291, rfl, ho0, hb⟩; refine ⟨_, rfl, ?_⟩; have n0_ := Aside0.mk (Kd.R_lower ho0 (below_size (by repeat (first | (with_reducible first | exact HB.out | apply below_alloc | apply pw_below_drewN | apply below_drew1) | exact HB.out)))); have n1_ := Aside0.mk (below_step (by repeat (first | (with_reducible first | exact HB.out | apply below_alloc | apply pw_below_drewN | apply below_drew1) | exact HB.out)) hb); clear HB; have HO292 := n0_; have HB := n1_; clear n0_ n1_; (try clear hb); (try clear hb2); (try clear hk); (try clear hi); (try clear ho0)) | ((with_reducible refine gate_callee (f := 12) rfl ?_); refine goesL_ (some 22) rfl rfl Tryd.func12 (by kernel_rfl) rfl #[] rfl (by (try simp only [List.map_toArray, List.map_cons, List.map_nil]); first | done | rfl | (simp only [List.length_drop, List.length_take]; rfl)) ?_; (with_reducible refine (laws_numberAwake.calls k  t293 _ A5.out ?side99).mono ?_); (case side99 => exact HT.out _ (by repeat (first | (with_reducible first | exact HB.out | apply below_alloc | apply pw_below_drewN | apply below_drew1) | exact HB.out))); rintro e w7 ⟨rfl, hb⟩; refine ⟨_, rfl, ?_⟩; have n0_ := Aside0.mk (Kd.R_below (by (with_reducible repeat (first | apply Kd.R_alloc | apply Kd.R_drewN | apply Kd.R_drew)); exact HO292.out) hb); have n1_ := Aside0.mk (below_step (by repeat (first | (with_reducible first | exact HB.out | apply below_alloc | apply pw_below_drewN | apply below_drew1) | exact HB.out)) hb); clear HO292; clear HB; have HO292 := n0_; have HB := n1_; clear n0_ n1_; (try clear hb); (try clear hb2); (try clear hk); (try clear hi)))
    go_ret
    exact ⟨by first | rfl | (simp [errW_none, errW_some] <;> rfl) | (simp [*, errW_none, errW_some] <;> rfl), by repeat (first | (with_reducible first | exact HB.out | apply below_alloc | apply pw_below_drewN | apply below_drew1) | exact HB.out)⟩
  · rw [if_neg c4] at H
    have c4b0 : ((Int.tmod a0 1000000000000000) == 0) = false := beq_eq_false_iff_ne.mpr c4
    have c4b1 : ((Int.tmod a0 1000000000000000) != 0) = true := bne_iff_ne.mpr c4
    replace H := Option.bind_eq_some_iff.mp H
    obtain ⟨t294, A80, H⟩ := H
    replace H : ((impl_NumberMade.f t294 (decide ((Int.tmod a0 1000000000000000) < 0)) (wrap64 (t290 - 2))).bind fun t297 => ((impl_NumberTaken.f k t297).bind fun bt300 => ((spec_NumberDigits.f k bt300.1).bind fun bt305 => (if bt300.2.2.2.2 = true then (if (bt300.2.1 == (decide ((Int.tmod a0 1000000000000000) < 0))) = true then ((bytes_Equal.f bt305.1 t289).bind fun t309 => (if t309 = true then (if (wrap64 (bt305.2 + bt300.2.2.1)) = (wrap64 (t290 - 2)) then ((laws_numberAwake.f k).bind fun t310 => (some t310)) else (none)) else (none))) else (none)) else (none))))) = some r := H
    have A8 := Aside0.mk A80
    clear A80
    replace H := Option.bind_eq_some_iff.mp H
    obtain ⟨t297, A90, H⟩ := H
    replace H : ((impl_NumberTaken.f k t297).bind fun bt300 => ((spec_NumberDigits.f k bt300.1).bind fun bt305 => (if bt300.2.2.2.2 = true then (if (bt300.2.1 == (decide ((Int.tmod a0 1000000000000000) < 0))) = true then ((bytes_Equal.f bt305.1 t289).bind fun t309 => (if t309 = true then (if (wrap64 (bt305.2 + bt300.2.2.1)) = (wrap64 (t290 - 2)) then ((laws_numberAwake.f k).bind fun t310 => (some t310)) else (none)) else (none))) else (none)) else (none)))) = some r := H
    have A9 := Aside0.mk A90
    clear A90
    replace H := Option.bind_eq_some_iff.mp H
    obtain ⟨⟨t300, t301, t302, t303, t304⟩, A100, H⟩ := H
    replace H : ((spec_NumberDigits.f k t300).bind fun bt305 => (if t304 = true then (if (t301 == (decide ((Int.tmod a0 1000000000000000) < 0))) = true then ((bytes_Equal.f bt305.1 t289).bind fun t309 => (if t309 = true then (if (wrap64 (bt305.2 + t302)) = (wrap64 (t290 - 2)) then ((laws_numberAwake.f k).bind fun t310 => (some t310)) else (none)) else (none))) else (none)) else (none))) = some r := H
    have A10 := Aside0.mk A100
    clear A100
    replace H := Option.bind_eq_some_iff.mp H
    obtain ⟨⟨t305, t306⟩, A110, H⟩ := H
    replace H : (if t304 = true then (if (t301 == (decide ((Int.tmod a0 1000000000000000) < 0))) = true then ((bytes_Equal.f t305 t289).bind fun t309 => (if t309 = true then (if (wrap64 (t306 + t302)) = (wrap64 (t290 - 2)) then ((laws_numberAwake.f k).bind fun t310 => (some t310)) else (none)) else (none))) else (none)) else (none)) = some r := H
    have A11 := Aside0.mk A110
    clear A110
    by_cases c12 : t304 = true
    · subst c12
      have H1 : (if (t301 == (decide ((Int.tmod a0 1000000000000000) < 0))) = true then ((bytes_Equal.f t305 t289).bind fun t309 => (if t309 = true then (if (wrap64 (t306 + t302)) = (wrap64 (t290 - 2)) then ((laws_numberAwake.f k).bind fun t310 => (some t310)) else (none)) else (none))) else (none)) = some r := by rw [if_pos rfl] at H; exact H
      clear H
      have H := H1
      clear H1
      by_cases c13 : (t301 == (decide ((Int.tmod a0 1000000000000000) < 0))) = true
      · rw [if_pos c13] at H
        have c13b0 : (t301 == (decide ((Int.tmod a0 1000000000000000) < 0))) = true := c13
        (try (have c13b1 : decide (t301 = (decide ((Int.tmod a0 1000000000000000) < 0))) = true := by simpa using c13))
        (try (have c13b2 : (t301 == (decide ((Int.tmod a0 1000000000000000) < 0))) = true := by simpa using c13))
        clear c13
        replace H := Option.bind_eq_some_iff.mp H
        obtain ⟨t309, A140, H⟩ := H
        replace H : (if t309 = true then (if (wrap64 (t306 + t302)) = (wrap64 (t290 - 2)) then ((laws_numberAwake.f k).bind fun t310 => (some t310)) else (none)) else (none)) = some r := H
        have A14 := Aside0.mk A140
        clear A140
        by_cases c15 : t309 = true
        · subst c15
          have H1 : (if (wrap64 (t306 + t302)) = (wrap64 (t290 - 2)) then ((laws_numberAwake.f k).bind fun t310 => (some t310)) else (none)) = some r := by rw [if_pos rfl] at H; exact H
          clear H
          have H := H1
          clear H1
          by_cases c16 : (wrap64 (t306 + t302)) = (wrap64 (t290 - 2))
          · rw [if_pos c16] at H
            have c16b0 : ((wrap64 (t306 + t302)) == (wrap64 (t290 - 2))) = true := beq_iff_eq.mpr c16
            have c16b1 : ((wrap64 (t306 + t302)) != (wrap64 (t290 - 2))) = false := bne_eq_false_iff_eq.mpr c16
            clear c16
            replace H := Option.bind_eq_some_iff.mp H
            obtain ⟨t310, A170, H⟩ := H
            replace H : (some t310) = some r := H
            have A17 := Aside0.mk A170
            clear A170
            obtain rfl := Option.some.inj H
            go_enter Tryd.func6, Tryd.ntmps6
            go_wp2_with (first | ((with_reducible refine gate_callee (f := 21) rfl ?_); refine goesL_ (some 16) rfl rfl Tryd.func21 (by kernel_rfl) rfl #[.int .i64 (Int.tmod a0 1000000000000000)] rfl (by (try simp only [List.map_toArray, List.map_cons, List.map_nil]); first | done | rfl | (simp only [List.length_drop, List.length_take]; rfl)) ?_; (with_reducible refine (laws_numberSize.calls (Int.tmod a0 1000000000000000) t288 _ A2.out).mono ?_); rintro e w' ⟨rfl, ⟨nd, rfl⟩⟩; refine ⟨_, rfl, ?_⟩) | ((with_reducible refine gate_callee (f := 20) rfl ?_); refine goesL_ (some 17) rfl rfl Tryd.func20 (by kernel_rfl) rfl #[.int .u64 t288] rfl (by (try simp only [List.map_toArray, List.map_cons, List.map_nil]); first | done | rfl | (simp only [List.length_drop, List.length_take]; rfl)) ?_; (with_reducible refine (spec_NumberDigits.calls k t288 t289 t290 _ A3.out).mono ?_); rintro e w18 ⟨v291, rfl, ho0, hb⟩; refine ⟨_, rfl, ?_⟩; have n0_ := Aside0.mk (Kd.R_lower ho0 (below_size (by repeat (first | (with_reducible first | exact HB.out | apply below_alloc | apply pw_below_drewN | apply below_drew1) | exact HB.out)))); have n1_ := Aside0.mk (below_step (by repeat (first | (with_reducible first | exact HB.out | apply below_alloc | apply pw_below_drewN | apply below_drew1) | exact HB.out)) hb); clear HB; have HO292 := n0_; have HB := n1_; clear n0_ n1_; (try clear hb); (try clear hb2); (try clear hk); (try clear hi); (try clear ho0); obtain ⟨Ao19, co19, eo19⟩ := Kd.R_slice HO292.out; subst eo19) | ((with_reducible refine gate_callee (f := 16) rfl ?_); refine goesL_ (some 25) rfl rfl Tryd.func16 (by kernel_rfl) rfl #[.slice Ao19 t289.length co19] rfl (by (try simp only [List.map_toArray, List.map_cons, List.map_nil]); first | done | rfl | (simp only [List.length_drop, List.length_take]; rfl)) ?_; (with_reducible refine (laws_numberLetters.calls k _ _ t289 t294 _ ?side1 ?side2 A8.out).mono ?_); (case side1 => repeat (first | exact (Kd.R_reads' HO292.out).2.2 | (with_reducible refine Kd.C_alloc ?_ _) | (with_reducible refine Kd.C_drewN ?_ _) | (with_reducible refine Kd.C_drew ?_))); (case side2 => exact (Kd.R_reads' HO292.out).2.1); rintro e w20 ⟨v295, rfl, ho0, hb⟩; refine ⟨_, rfl, ?_⟩; have n0_ := Aside0.mk (Kd.R_elder' (by (with_reducible repeat (first | apply Kd.R_alloc | apply Kd.R_drewN | apply Kd.R_drew)); exact HO292.out) (Kd.R_base ho0) hb); have n1_ := Aside0.mk (Kd.R_lower (Kd.R_new' ho0 (Kd.R_lt (by (with_reducible repeat (first | apply Kd.R_alloc | apply Kd.R_drewN | apply Kd.R_drew)); exact HO292.out))) (below_size (by repeat (first | (with_reducible first | exact HB.out | apply below_alloc | apply pw_below_drewN | apply below_drew1) | exact HB.out)))); have n2_ := Aside0.mk (below_step (by repeat (first | (with_reducible first | exact HB.out | apply below_alloc | apply pw_below_drewN | apply below_drew1) | exact HB.out)) hb); clear HO292; clear HB; have HO292 := n0_; have HO296 := n1_; have HB := n2_; clear n0_ n1_ n2_; (try clear hb); (try clear hb2); (try clear hk); (try clear hi); (try clear ho0); obtain ⟨Ao21, co21, eo21⟩ := Kd.R_slice HO296.out; subst eo21) | ((with_reducible refine gate_callee (f := 15) rfl ?_); refine goesL_ (some 30) rfl rfl Tryd.func15 (by kernel_rfl) rfl #[.slice Ao21 t294.length co21, .bool (decide ((Int.tmod a0 1000000000000000) < 0)), .int .i64 (wrap64 (t290 - 2))] rfl (by (try simp only [List.map_toArray, List.map_cons, List.map_nil]); first | done | rfl | (simp only [List.length_drop, List.length_take]; rfl)) ?_; (with_reducible refine (impl_NumberMade.calls _ _ t294 (decide ((Int.tmod a0 1000000000000000) < 0)) (wrap64 (t290 - 2)) t297 _ ?side1 ?side2 A9.out).mono ?_); (case side1 => repeat (first | exact (Kd.R_reads' HO296.out).2.2 | (with_reducible refine Kd.C_alloc ?_ _) | (with_reducible refine Kd.C_drewN ?_ _) | (with_reducible refine Kd.C_drew ?_))); (case side2 => exact (Kd.R_reads' HO296.out).2.1); rintro e w22 ⟨v298, rfl, ho0, hb⟩; refine ⟨_, rfl, ?_⟩; have n0_ := Aside0.mk (Kd.R_elder' (by (with_reducible repeat (first | apply Kd.R_alloc | apply Kd.R_drewN | apply Kd.R_drew)); exact HO292.out) (Kd.R_base ho0) hb); have n1_ := Aside0.mk (Kd.R_elder' (by (with_reducible repeat (first | apply Kd.R_alloc | apply Kd.R_drewN | apply Kd.R_drew)); exact HO296.out) (Kd.R_base ho0) hb); have n2_ := Aside0.mk (Kd.R_lower (Kd.R_new' (Kd.R_new' ho0 (Kd.R_lt (by (with_reducible repeat (first | apply Kd.R_alloc | apply Kd.R_drewN | apply Kd.R_drew)); exact HO292.out))) (Kd.R_lt (by (with_reducible repeat (first | apply Kd.R_alloc | apply Kd.R_drewN | apply Kd.R_drew)); exact HO296.out))) (below_size (by repeat (first | (with_reducible first | exact HB.out | apply below_alloc | apply pw_below_drewN | apply below_drew1) | exact HB.out)))); have n3_ := Aside0.mk (below_step (by repeat (first | (with_reducible first | exact HB.out | apply below_alloc | apply pw_below_drewN | apply below_drew1) | exact HB.out)) hb); clear HO292; clear HO296; clear HB; have HO292 := n0_; have HO296 := n1_; have HO299 := n2_; have HB := n3_; clear n0_ n1_ n2_ n3_; (try clear hb); (try clear hb2); (try clear hk); (try clear hi); (try clear ho0); obtain ⟨Ao23, co23, eo23⟩ := Kd.R_slice HO299.out; subst eo23) | ((with_reducible refine gate_callee (f := 22) rfl ?_); refine goesL_ (some 31) rfl rfl Tryd.func22 (by kernel_rfl) rfl #[.slice Ao23 t297.length co23] rfl (by (try simp only [List.map_toArray, List.map_cons, List.map_nil]); first | done | rfl | (simp only [List.length_drop, List.length_take]; rfl)) ?_; (with_reducible refine (impl_NumberTaken.calls k _ _ t297 t300 t301 t302 t303 true _ ?side1 ?side2 A10.out).mono ?_); (case side1 => repeat (first | exact (Kd.R_reads' HO299.out).2.2 | (with_reducible refine Kd.C_alloc ?_ _) | (with_reducible refine Kd.C_drewN ?_ _) | (with_reducible refine Kd.C_drew ?_))); (case side2 => exact (Kd.R_reads' HO299.out).2.1); rintro e w24 ⟨rfl, hb⟩; refine ⟨_, rfl, ?_⟩; have n0_ := Aside0.mk (Kd.R_below (by (with_reducible repeat (first | apply Kd.R_alloc | apply Kd.R_drewN | apply Kd.R_drew)); exact HO292.out) hb); have n1_ := Aside0.mk (Kd.R_below (by (with_reducible repeat (first | apply Kd.R_alloc | apply Kd.R_drewN | apply Kd.R_drew)); exact HO296.out) hb); have n2_ := Aside0.mk (Kd.R_below (by (with_reducible repeat (first | apply Kd.R_alloc | apply Kd.R_drewN | apply Kd.R_drew)); exact HO299.out) hb); have n3_ := Aside0.mk (below_step (by repeat (first | (with_reducible first | exact HB.out | apply below_alloc | apply pw_below_drewN | apply below_drew1) | exact HB.out)) hb); clear HO292; clear HO296; clear HO299; clear HB; have HO292 := n0_; have HO296 := n1_; have HO299 := n2_; have HB := n3_; clear n0_ n1_ n2_ n3_; (try clear hb); (try clear hb2); (try clear hk); (try clear hi)) | ((with_reducible refine gate_callee (f := 20) rfl ?_); refine goesL_ (some 39) rfl rfl Tryd.func20 (by kernel_rfl) rfl #[.int .u64 t300] rfl (by (try simp only [List.map_toArray, List.map_cons, List.map_nil]); first | done | rfl | (simp only [List.length_drop, List.length_take]; rfl)) ?_; (with_reducible refine (spec_NumberDigits.calls k t300 t305 t306 _ A11.out).mono ?_); rintro e w25 ⟨v307, rfl, ho0, hb⟩; refine ⟨_, rfl, ?_⟩; have n0_ := Aside0.mk (Kd.R_elder' (by (with_reducible repeat (first | apply Kd.R_alloc | apply Kd.R_drewN | apply Kd.R_drew)); exact HO292.out) (Kd.R_base ho0) hb); have n1_ := Aside0.mk (Kd.R_elder' (by (with_reducible repeat (first | apply Kd.R_alloc | apply Kd.R_drewN | apply Kd.R_drew)); exact HO296.out) (Kd.R_base ho0) hb); have n2_ := Aside0.mk (Kd.R_elder' (by (with_reducible repeat (first | apply Kd.R_alloc | apply Kd.R_drewN | apply Kd.R_drew)); exact HO299.out) (Kd.R_base ho0) hb); have n3_ := Aside0.mk (Kd.R_lower (Kd.R_new' (Kd.R_new' (Kd.R_new' ho0 (Kd.R_lt (by (with_reducible repeat (first | apply Kd.R_alloc | apply Kd.R_drewN | apply Kd.R_drew)); exact HO292.out))) (Kd.R_lt (by (with_reducible repeat (first | apply Kd.R_alloc | apply Kd.R_drewN | apply Kd.R_drew)); exact HO296.out))) (Kd.R_lt (by (with_reducible repeat (first | apply Kd.R_alloc | apply Kd.R_drewN | apply Kd.R_drew)); exact HO299.out))) (below_size (by repeat (first | (with_reducible first | exact HB.out | apply below_alloc | apply pw_below_drewN | apply below_drew1) | exact HB.out)))); have n4_ := Aside0.mk (below_step (by repeat (first | (with_reducible first | exact HB.out | apply below_alloc | apply pw_below_drewN | apply below_drew1) | exact HB.out)) hb); clear HO292; clear HO296; clear HO299; clear HB; have HO292 := n0_; have HO296 := n1_; have HO299 := n2_; have HO308 := n3_; have HB := n4_; clear n0_ n1_ n2_ n3_ n4_; (try clear hb); (try clear hb2); (try clear hk); (try clear hi); (try clear ho0); obtain ⟨Ao26, co26, eo26⟩ := Kd.R_slice HO308.out; subst eo26) | (go_at_call 23; (with_reducible refine (bytes_Equal.calls _ _ t305 _ _ t289 true _ ?side1 ?side2 ?side3 ?side4 A14.out).mono ?_); (case side1 => repeat (first | exact (Kd.R_reads' HO308.out).2.2 | (with_reducible refine Kd.C_alloc ?_ _) | (with_reducible refine Kd.C_drewN ?_ _) | (with_reducible refine Kd.C_drew ?_))); (case side2 => exact (Kd.R_reads' HO308.out).2.1); (case side3 => repeat (first | exact (Kd.R_reads' HO292.out).2.2 | (with_reducible refine Kd.C_alloc ?_ _) | (with_reducible refine Kd.C_drewN ?_ _) | (with_reducible refine Kd.C_drew ?_))); (case side4 => exact (Kd.R_reads' HO292.out).2.1); rintro e w' ⟨rfl, ⟨nd, rfl⟩⟩) | (go_at_call 12; (with_reducible refine (laws_numberAwake.calls k  t310 _ A17.out ?side99).mono ?_); (case side99 => exact HT.out _ (by repeat (first | (with_reducible first | exact HB.out | apply below_alloc | apply pw_below_drewN | apply below_drew1) | exact HB.out))); rintro e w27 ⟨rfl, hb⟩; have n0_ := Aside0.mk (Kd.R_below (by (with_reducible repeat (first | apply Kd.R_alloc | apply Kd.R_drewN | apply Kd.R_drew)); exact HO292.out) hb); have n1_ := Aside0.mk (Kd.R_below (by (with_reducible repeat (first | apply Kd.R_alloc | apply Kd.R_drewN | apply Kd.R_drew)); exact HO296.out) hb); have n2_ := Aside0.mk (Kd.R_below (by (with_reducible repeat (first | apply Kd.R_alloc | apply Kd.R_drewN | apply Kd.R_drew)); exact HO299.out) hb); have n3_ := Aside0.mk (Kd.R_below (by (with_reducible repeat (first | apply Kd.R_alloc | apply Kd.R_drewN | apply Kd.R_drew)); exact HO308.out) hb); have n4_ := Aside0.mk (below_step (by repeat (first | (with_reducible first | exact HB.out | apply below_alloc | apply pw_below_drewN | apply below_drew1) | exact HB.out)) hb); clear HO292; clear HO296; clear HO299; clear HO308; clear HB; have HO292 := n0_; have HO296 := n1_; have HO299 := n2_; have HO308 := n3_; have HB := n4_; clear n0_ n1_ n2_ n3_ n4_; (try clear hb); (try clear hb2); (try clear hk); (try clear hi)))
            go_ret
            exact ⟨by first | rfl | (simp [errW_none, errW_some] <;> rfl) | (simp [*, errW_none, errW_some] <;> rfl), by repeat (first | (with_reducible first | exact HB.out | apply below_alloc | apply pw_below_drewN | apply below_drew1) | exact HB.out)⟩
          · rw [if_neg c16] at H
            exact absurd H (by simp)
        · replace c15 := Bool.eq_false_iff.mpr c15
          subst c15
          have H1 : (none) = some r := by rw [if_neg (show ¬ (false = true) by decide)] at H; exact H
          clear H
          have H := H1
          clear H1
          exact absurd H (by simp)
      · rw [if_neg c13] at H
        exact absurd H (by simp)
    · replace c12 := Bool.eq_false_iff.mpr c12
      subst c12
      have H1 : (none) = some r := by rw [if_neg (show ¬ (false = true) by decide)] at H; exact H
      clear H
      have H := H1
      clear H1
      exact absurd H (by simp)
/-- THE ONE PURE STATEMENT of laws_FnNumberMoney: yours. -/
def laws_FnNumberMoney.Pure : Prop := ∀ (a0 : Int), (Lit.int .i64 a0).wf = true → ∃ k, laws_FnNumberMoney.f k a0 = some true
end Go.Proofs.YtepooaejlofkkaaDoor.ZN
