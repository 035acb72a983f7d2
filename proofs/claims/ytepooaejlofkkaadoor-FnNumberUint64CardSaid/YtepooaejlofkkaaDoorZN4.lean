-- Written by a program of this session (wip/xprint.py), which calls the kit's print.
import Derived.Test.YtepooaejlofkkaaDoorZN0
import Derived.Test.YtepooaejlofkkaaDoorNum
namespace Go.Proofs.YtepooaejlofkkaaDoor.ZN
open Go.RowKit Go.Proofs.YtepooaejlofkkaaDoor.X Go.Proofs.YtepooaejlofkkaaDoorW.PrintWords Go.Proofs.YtepooaejlofkkaaDoorW.PrintLast Go.Proofs.YtepooaejlofkkaaDoorW.PrintMore
attribute [local go_sem] max2_int min2_int max_two min_two max_three min_three max_four min_four   -- for this text's walks alone
set_option linter.unusedVariables false
set_option linter.unusedSimpArgs false

/-! ### laws_numberDigits: function 13 -/
mutual
def laws_numberDigits.l0 : Nat → Int → List Int → List Int → Int → Int → Option (List Int)
  | 0, _, _, _, _, _ => none
  | k + 1, x1, x5, x8, x9, x10 => if x10 < x9 then (if 0 ≤ x10 then (if x10 < (x8.length : Int) then (if (x5.length : Int) < x1 then (if x5.length < 140737488355328 then (laws_numberDigits.l0 k x1 (x5 ++ [Int.tmod (rd x8 x10) 10]) x8 x9 (wrap64 (x10 + 1))) else (none)) else (laws_numberDigits.l0 k x1 x5 x8 x9 (wrap64 (x10 + 1)))) else (none)) else (none)) else (laws_numberDigits.l1 k x5)
def laws_numberDigits.j2 : Nat → List Int → Option (List Int)
  | 0, _ => none
  | k + 1, x5 => laws_numberDigits.l2 k x5
def laws_numberDigits.l2 : Nat → List Int → Option (List Int)
  | 0, _ => none
  | k + 1, x5 => if (x5.length : Int) > 0 then (if 0 ≤ (wrap64 ((x5.length : Int) - 1)) then (if (wrap64 ((x5.length : Int) - 1)) < (x5.length : Int) then (if (rd x5 (wrap64 ((x5.length : Int) - 1))) = 0 then (if (wrap64 ((x5.length : Int) - 1)) ≤ (x5.length : Int) then (laws_numberDigits.l2 k (x5.take ((wrap64 ((x5.length : Int) - 1)) : Int).toNat)) else (none)) else (some x5)) else (none)) else (none)) else (some x5)
def laws_numberDigits.l1 : Nat → List Int → Option (List Int)
  | 0, _ => none
  | k + 1, x5 => if (x5.length : Int) > 0 then (if 0 < (x5.length : Int) then (if (rd x5 0) = 0 then (if 1 ≤ (x5.length : Int) then (laws_numberDigits.l1 k (x5.drop (1 : Int).toNat)) else (none)) else (laws_numberDigits.j2 k x5)) else (none)) else (laws_numberDigits.j2 k x5)
end
def laws_numberDigits.f (k : Nat) (l0 : List Int) (a1 : Int) : Option (List Int) := laws_numberDigits.l0 k a1 ([] : List Int) l0 (l0.length : Int) 0
theorem laws_numberDigits.mono_l : ∀ k, (∀ y0 y1 y2 y3 y4, LeO (laws_numberDigits.l0 k y0 y1 y2 y3 y4) (laws_numberDigits.l0 (k + 1) y0 y1 y2 y3 y4)) ∧ (∀ y0, LeO (laws_numberDigits.j2 k y0) (laws_numberDigits.j2 (k + 1) y0)) ∧ (∀ y0, LeO (laws_numberDigits.l2 k y0) (laws_numberDigits.l2 (k + 1) y0)) ∧ (∀ y0, LeO (laws_numberDigits.l1 k y0) (laws_numberDigits.l1 (k + 1) y0))
  | 0 => ⟨fun _ _ _ _ _ r h => by simp [laws_numberDigits.l0] at h, fun _ r h => by simp [laws_numberDigits.j2] at h, fun _ r h => by simp [laws_numberDigits.l2] at h, fun _ r h => by simp [laws_numberDigits.l1] at h⟩
  | k + 1 => by
    obtain ⟨ih0, ih1, ih2, ih3⟩ := laws_numberDigits.mono_l k
    refine ⟨?_, ?_, ?_, ?_⟩
    · intro y0 y1 y2 y3 y4
      unfold laws_numberDigits.l0
      repeat' first
      | (with_reducible exact ih0 _ _ _ _ _)
      | (with_reducible exact ih1 _)
      | (with_reducible exact ih2 _)
      | (with_reducible exact ih3 _)
      | (with_reducible exact LeO.refl _)
      | (with_reducible exact LeO.none _)
      | (with_reducible refine LeO.ite ?_ ?_)
      | (with_reducible refine LeO.bind ?_ (fun _ => ?_))
      | exact ih0 _ _ _ _ _
      | exact ih1 _
      | exact ih2 _
      | exact ih3 _
      | exact LeO.none _
      | refine LeO.ite ?_ ?_
      | refine LeO.bind ?_ (fun _ => ?_)
    · intro y0
      unfold laws_numberDigits.j2
      repeat' first
      | (with_reducible exact ih0 _ _ _ _ _)
      | (with_reducible exact ih1 _)
      | (with_reducible exact ih2 _)
      | (with_reducible exact ih3 _)
      | (with_reducible exact LeO.refl _)
      | (with_reducible exact LeO.none _)
      | (with_reducible refine LeO.ite ?_ ?_)
      | (with_reducible refine LeO.bind ?_ (fun _ => ?_))
      | exact ih0 _ _ _ _ _
      | exact ih1 _
      | exact ih2 _
      | exact ih3 _
      | exact LeO.none _
      | refine LeO.ite ?_ ?_
      | refine LeO.bind ?_ (fun _ => ?_)
    · intro y0
      unfold laws_numberDigits.l2
      repeat' first
      | (with_reducible exact ih0 _ _ _ _ _)
      | (with_reducible exact ih1 _)
      | (with_reducible exact ih2 _)
      | (with_reducible exact ih3 _)
      | (with_reducible exact LeO.refl _)
      | (with_reducible exact LeO.none _)
      | (with_reducible refine LeO.ite ?_ ?_)
      | (with_reducible refine LeO.bind ?_ (fun _ => ?_))
      | exact ih0 _ _ _ _ _
      | exact ih1 _
      | exact ih2 _
      | exact ih3 _
      | exact LeO.none _
      | refine LeO.ite ?_ ?_
      | refine LeO.bind ?_ (fun _ => ?_)
    · intro y0
      unfold laws_numberDigits.l1
      repeat' first
      | (with_reducible exact ih0 _ _ _ _ _)
      | (with_reducible exact ih1 _)
      | (with_reducible exact ih2 _)
      | (with_reducible exact ih3 _)
      | (with_reducible exact LeO.refl _)
      | (with_reducible exact LeO.none _)
      | (with_reducible refine LeO.ite ?_ ?_)
      | (with_reducible refine LeO.bind ?_ (fun _ => ?_))
      | exact ih0 _ _ _ _ _
      | exact ih1 _
      | exact ih2 _
      | exact ih3 _
      | exact LeO.none _
      | refine LeO.ite ?_ ?_
      | refine LeO.bind ?_ (fun _ => ?_)
theorem laws_numberDigits.mono : ∀ a0 a1 k, LeO (laws_numberDigits.f k a0 a1) (laws_numberDigits.f (k + 1) a0 a1) := by
  intro a0 a1 k
  obtain ⟨ih0, ih1, ih2, ih3⟩ := laws_numberDigits.mono_l k
  unfold laws_numberDigits.f
  repeat' first
      | (with_reducible exact ih0 _ _ _ _ _)
      | (with_reducible exact ih1 _)
      | (with_reducible exact ih2 _)
      | (with_reducible exact ih3 _)
      | (with_reducible exact LeO.refl _)
      | (with_reducible exact LeO.none _)
      | (with_reducible refine LeO.ite ?_ ?_)
      | (with_reducible refine LeO.bind ?_ (fun _ => ?_))
      | exact ih0 _ _ _ _ _
      | exact ih1 _
      | exact ih2 _
      | exact ih3 _
      | exact LeO.none _
      | refine LeO.ite ?_ ?_
      | refine LeO.bind ?_ (fun _ => ?_)
set_option maxHeartbeats 8000000 in
set_option maxRecDepth 100000 in
theorem laws_numberDigits.calls (k : Nat) (A0 : Option Addr) (c0 : Nat) (l0 : List Int) (a1 : Int) (r : List Int) (w : World) (hr0 : Kd.C (Kd.int .u8) w A0 l0.length l0) (hc0 : l0.length ≤ c0) (h : laws_numberDigits.f k l0 a1 = some r) :
    Calls Tryd.prog 13 #[.slice A0 l0.length c0, .int .i64 a1] w fun e w' => ∃ v0_ : Value, e = .returned (v0_) ∧ Kd.Q (Kd.int .u8) 5 w' w.heap.size (fun _ => True) v0_ r ∧ Below w.heap.size w w' := by
  have HR0 := Aside0.mk hr0
  have HC0 := Aside0.mk hc0
  clear hr0 hc0
  have HB := Aside0.mk (Below.refl w.heap.size w)
  have H : (laws_numberDigits.l0 k a1 ([] : List Int) l0 (l0.length : Int) 0) = some r := h
  clear h
  have H' := Aside0.mk H
  clear H
  go_enter Tryd.func13, Tryd.ntmps13
  go_wp2
  go_loopg [5, 10] k (fun kq v5 v10 w' => ∃ (x5_1 : List Int) (x10_1 : Int), v10 = .int .i64 x10_1 ∧ Aside0 (laws_numberDigits.l0 kq a1 x5_1 l0 (l0.length : Int) x10_1 = some r) ∧ Aside0 (kq ≤ k) ∧ Aside0 (Kd.Q (Kd.int .u8) 5 w' w.heap.size (fun _ => True) v5 x5_1) ∧ Aside0 (Below w.heap.size w w'))
  case atStart => exact ⟨(([] : List Int)), (0), (by first | rfl | (simp; done) | (simp [*]; done)), H', ⟨Nat.le_refl _⟩, ⟨Kd.Q_of_R (by first | exact Kd.R_nil _ _ _ _ _ | exact Kd.N_nil _ _ _ _ _ | exact Kd.V_nil _ _ _ _ _ | exact Kd.Q_nil _ _ _ _ _ | exact Kd.S_nil _ _ _ _ _)⟩, ⟨by repeat (first | (with_reducible first | exact HB.out | apply below_alloc | apply pw_below_drewN | apply below_drew1) | exact HB.out)⟩⟩
  case round =>
    clear H'
    try clear c1
    try clear p2
    obtain ⟨x5_1, x10_1, rfl, HA, HK1, HO_5, HB⟩ := hrel
    cases gk with
    | zero => exact absurd HA.out (by simp [laws_numberDigits.l0])
    | succ k1 =>
      have H := HA.out
      clear HA
      simp only [laws_numberDigits.l0] at H
      by_cases c3 : x10_1 < (l0.length : Int)
      · rw [if_pos c3] at H
        have c3b0 : decide (x10_1 < (l0.length : Int)) = true := decide_eq_true c3
        clear c3
        by_cases c4 : 0 ≤ x10_1
        · rw [if_pos c4] at H
          have c4b0 : decide (0 ≤ x10_1) = true := decide_eq_true c4
          clear c4
          by_cases c5 : x10_1 < (l0.length : Int)
          · rw [if_pos c5] at H
            have c5b0 : decide (x10_1 < (l0.length : Int)) = true := decide_eq_true c5
            clear c5
            by_cases c6 : (x5_1.length : Int) < a1
            · rw [if_pos c6] at H
              have c6b0 : decide ((x5_1.length : Int) < a1) = true := decide_eq_true c6
              clear c6
              by_cases c7 : x5_1.length < 140737488355328
              · rw [if_pos c7] at H
                have LMc7 := Aside0.mk c7
                clear c7
                obtain ⟨y154, hy154⟩ : ∃ y_ : List Int, y_ = (x5_1 ++ [Int.tmod (rd l0 x10_1) 10]) := ⟨_, rfl⟩
                replace H : (laws_numberDigits.l0 k1 a1 y154 l0 (l0.length : Int) (wrap64 (x10_1 + 1))) = some r := by first | (rw [hy154]; with_reducible exact H) | (have H2_ := (Option.bind_some _ _).symm.trans H; rw [hy154]; with_reducible exact H2_) | (have H2_ := (Option.bind_some _ _).symm.trans H; with_reducible exact H2_) | with_reducible exact H | (rw [hy154]; exact H) | exact H
                have Ny154 := Aside0.mk hy154
                clear hy154
                have H' := Aside0.mk H
                clear H
                have p153 : 0 ≤ (x10_1 : Int) := of_decide_eq_true (by first | (with_reducible assumption) | assumption)
                have q153 : x10_1 < (l0.length : Int) := of_decide_eq_true (by first | (with_reducible assumption) | assumption)
                obtain ⟨ad153, e153, hx153_0⟩ := Kd.at_int HR0.out x10_1 p153 q153
                cases e153
                replace hx153_0 := (HB.out.cell (World.block_lt_of_cell? w _ hx153_0)).trans hx153_0
                replace p153 := eq_true p153
                replace q153 := eq_true q153
                obtain ⟨Ao8, co8, eo8, _⟩ := Kd.Q_slice HO_5.out
                subst eo8
                go_wp2_with (first | ((with_reducible refine gate_builtin (b := .append) (xs := #[.tmp 18, .tmp 21]) rfl ?_); (try (refine gate_guard (by rfl) ?_; dsimp only)); at_builtin; refine Kd.Q_append (Kd.int .u8) (w0 := w) w.heap.size rfl (.tmp 18) (.tmp 21) 22 5 (.int .u8 0) 1 rfl Tryd.underlying22 info5 rfl (by decide) (by omega) (.slice Ao8 x5_1.length co8) x5_1 (Int.tmod (rd l0 x10_1) 10) [.int .u8 (Int.tmod (rd l0 x10_1) 10)] (fun _ => True) (fun _ => False) rfl rfl ?aP (fun _ hk => hk.elim) ?aF ?aO ?aB ?aS ?aL ?_; (case aP => exact rfl); (case aB => exact (by repeat (first | (with_reducible first | exact HB.out | apply below_alloc | apply pw_below_drewN | apply below_drew1) | exact HB.out))); (case aF => exact (fun _ _ => trivial)); (case aO => exact (by (with_reducible repeat (first | apply Kd.Q_alloc | apply Kd.Q_drewN | apply Kd.Q_drew)); exact HO_5.out)); (case aS => exact (below_size (by repeat (first | (with_reducible first | exact HB.out | apply below_alloc | apply pw_below_drewN | apply below_drew1) | exact HB.out)))); (case aL => have := LMc7.out; omega); intro v155 w9 ho hb hg hat; rw [← Ny154.out] at ho; have n0_ := Aside0.mk (hb); have n1_ := Aside0.mk (ho); clear HB; clear HO_5; have HB := n0_; have HO156 := n1_; clear n0_ n1_; clear ho hb hg hat))
                go_roundg k1
                case measure => have := HK1.out; omega
                case rel => exact ⟨(y154), (wrap64 (x10_1 + 1)), (by first | rfl | (simp; done) | (simp [*]; done)), H', ⟨by have := HK1.out; omega⟩, ⟨by (with_reducible repeat (first | apply Kd.Q_alloc | apply Kd.Q_drewN | apply Kd.Q_drew)); exact HO156.out⟩, ⟨by repeat (first | (with_reducible first | exact HB.out | apply below_alloc | apply pw_below_drewN | apply below_drew1) | exact HB.out)⟩⟩
              · rw [if_neg c7] at H
                exact absurd H (by simp)
            · rw [if_neg c6] at H
              have c6b0 : decide ((x5_1.length : Int) < a1) = false := decide_eq_false c6
              clear c6
              have H' := Aside0.mk H
              clear H
              have p153 : 0 ≤ (x10_1 : Int) := of_decide_eq_true (by first | (with_reducible assumption) | assumption)
              have q153 : x10_1 < (l0.length : Int) := of_decide_eq_true (by first | (with_reducible assumption) | assumption)
              obtain ⟨ad153, e153, hx153_0⟩ := Kd.at_int HR0.out x10_1 p153 q153
              cases e153
              replace hx153_0 := (HB.out.cell (World.block_lt_of_cell? w _ hx153_0)).trans hx153_0
              replace p153 := eq_true p153
              replace q153 := eq_true q153
              obtain ⟨Ao10, co10, eo10, _⟩ := Kd.Q_slice HO_5.out
              subst eo10
              go_wp2
              go_roundg k1
              case measure => have := HK1.out; omega
              case rel => exact ⟨(x5_1), (wrap64 (x10_1 + 1)), (by first | rfl | (simp; done) | (simp [*]; done)), H', ⟨by have := HK1.out; omega⟩, ⟨by (with_reducible repeat (first | apply Kd.Q_alloc | apply Kd.Q_drewN | apply Kd.Q_drew)); exact HO_5.out⟩, ⟨by repeat (first | (with_reducible first | exact HB.out | apply below_alloc | apply pw_below_drewN | apply below_drew1) | exact HB.out)⟩⟩
          · rw [if_neg c5] at H
            exact absurd H (by simp)
        · rw [if_neg c4] at H
          exact absurd H (by simp)
      · rw [if_neg c3] at H
        have c3b0 : decide (x10_1 < (l0.length : Int)) = false := decide_eq_false c3
        clear c3
        have HC11 := Aside0.mk H
        clear H
        go_upto_block 2 with (fail)
        go_cut [5] (fun v5 wc => ∃ (kq : Nat) (x5_10 : List Int), Aside0 (laws_numberDigits.j2 kq x5_10 = some r) ∧ Aside0 (kq ≤ k1) ∧ Aside0 (Kd.Q (Kd.int .u8) 5 wc w.heap.size (fun _ => True) v5 x5_10) ∧ Aside0 (Below w.heap.size w wc))
        case first =>
          have H := HC11.out
          clear HC11
          have H' := Aside0.mk H
          clear H
          go_wp2
          go_loopg [5] k1 (fun kq v5 w' => ∃ (x5_2 : List Int), Aside0 (laws_numberDigits.l1 kq x5_2 = some r) ∧ Aside0 (kq ≤ k1) ∧ Aside0 (Kd.Q (Kd.int .u8) 5 w' w.heap.size (fun _ => True) v5 x5_2) ∧ Aside0 (Below w.heap.size w w'))
          case atStart => exact ⟨(x5_1), H', ⟨Nat.le_refl _⟩, ⟨by (with_reducible repeat (first | apply Kd.Q_alloc | apply Kd.Q_drewN | apply Kd.Q_drew)); exact HO_5.out⟩, ⟨by repeat (first | (with_reducible first | exact HB.out | apply below_alloc | apply pw_below_drewN | apply below_drew1) | exact HB.out)⟩⟩
          case round =>
            clear H'
            try clear c1
            try clear p1
            try clear q1
            try clear hx1
            try clear p2
            try clear c3
            try clear c3b0
            try clear c4
            try clear c4b0
            try clear c5
            try clear c5b0
            try clear c6
            try clear c6b0
            try clear p6
            try clear c7
            try clear hx153_0
            try clear p153
            try clear p2
            try clear q153
            obtain ⟨x5_2, HA, HK2, HO_5, HB⟩ := hrel
            cases gk with
            | zero => exact absurd HA.out (by simp [laws_numberDigits.l1])
            | succ k2 =>
              have H := HA.out
              clear HA
              simp only [laws_numberDigits.l1] at H
              by_cases c12 : (x5_2.length : Int) > 0
              · rw [if_pos c12] at H
                have c12b0 : decide (0 < (x5_2.length : Int)) = true := decide_eq_true c12
                have c12b1 : decide (0 < x5_2.length) = true := decide_eq_true (by omega)
                clear c12
                (first | rw [c12b0] | (simp only [i64_w, i32_w]; rw [c12b0]) | skip)
                by_cases c13 : 0 < (x5_2.length : Int)
                · rw [if_pos c13] at H
                  have c13b0 : decide (0 < (x5_2.length : Int)) = true := decide_eq_true c13
                  have c13b1 : decide (0 < x5_2.length) = true := decide_eq_true (by omega)
                  clear c13
                  by_cases c14 : (rd x5_2 0) = 0
                  · rw [if_pos c14] at H
                    have c14b0 : ((rd x5_2 0) == 0) = true := beq_iff_eq.mpr c14
                    have c14b1 : ((rd x5_2 0) != 0) = false := bne_eq_false_iff_eq.mpr c14
                    clear c14
                    by_cases c15 : 1 ≤ (x5_2.length : Int)
                    · rw [if_pos c15] at H
                      have c15b0 := eq_true c15
                      have c15b1 : decide (1 ≤ (x5_2.length : Int)) = true := decide_eq_true c15
                      clear c15
                      obtain ⟨y158, hy158⟩ : ∃ y_ : List Int, y_ = (x5_2.drop (1 : Int).toNat) := ⟨_, rfl⟩
                      replace H : (laws_numberDigits.l1 k2 y158) = some r := by first | (rw [hy158]; with_reducible exact H) | (have H2_ := (Option.bind_some _ _).symm.trans H; rw [hy158]; with_reducible exact H2_) | (have H2_ := (Option.bind_some _ _).symm.trans H; with_reducible exact H2_) | with_reducible exact H | (rw [hy158]; exact H) | exact H
                      have Ny158 := Aside0.mk hy158
                      clear hy158
                      have H' := Aside0.mk H
                      clear H
                      obtain ⟨Ao16, co16, eo16, _⟩ := Kd.Q_slice HO_5.out
                      subst eo16
                      have p157 : 0 ≤ (0 : Int) := (by omega)
                      have q157 : 0 < (x5_2.length : Int) := of_decide_eq_true (by first | (with_reducible assumption) | assumption)
                      obtain ⟨ad157, e157, hx157_0⟩ := Kd.at_int (Kd.Q_reads' HO_5.out).2.2 0 p157 q157
                      cases e157
                      have qi157 : (0 < x5_2.length) = True := eq_true (by omega)
                      (try rw [show ((0 : Int)).toNat = 0 from rfl] at hx157_0)
                      (try rw [Addr.add_zero'] at hx157_0)
                      replace p157 := eq_true p157
                      replace q157 := eq_true q157
                      have q17 : (1 : Int) ≤ ((x5_2.length : Int) : Int) := of_decide_eq_true (by first | (with_reducible assumption) | assumption)
                      obtain ⟨i017, hi017, _, hsz17, _⟩ := info_parts info5
                      have hcut17 := cut_from (P := Tryd.prog) 22 5 .i64 Tryd.underlying22 hi017 1 hsz17 (some ad157) x5_2.length co16 1 (by omega) q17
                      have hr17 := Kd.Q_drop (k := (1 : Int).toNat) HO_5.out (by omega)
                      obtain ⟨A17, hA17⟩ : ∃ A1, A1 = (if co16 = (1 : Int).toNat then (some ad157) else ((some ad157) : Option Addr).map (·.add ((1 : Int).toNat * 1))) := ⟨_, rfl⟩
                      obtain ⟨c17, hc17⟩ : ∃ c1, c1 = co16 - (1 : Int).toNat := ⟨_, rfl⟩
                      have hy17 : y158.length = x5_2.length - (1 : Int).toNat := (by rw [Ny158.out, List.length_drop])
                      rw [← Ny158.out] at hr17
                      rw [← hy17, ← hA17, ← hc17] at hcut17
                      replace hr17 : Kd.Q (Kd.int .u8) 5 wr w.heap.size (fun _ => True) (.slice A17 y158.length c17) y158 := (by rw [hA17, hc17, hy17]; exact hr17)
                      have HE17 : Aside0 ((Value.slice A17 y158.length c17).ownBlock = (.slice (some ad157) x5_2.length co16 : Value).ownBlock) := ⟨by rw [hA17]; split <;> (cases ((some ad157) : Option Addr) <;> rfl)⟩
                      clear hy17 hi017 hsz17 HO_5 hA17 hc17
                      have HO160 := Aside0.mk hr17
                      clear hr17
                      replace q17 := eq_true q17
                      go_wp2
                      go_roundg k2
                      case measure => have := HK1.out; have := HK2.out; omega
                      case rel => exact ⟨(y158), H', ⟨by have := HK1.out; have := HK2.out; omega⟩, ⟨by (with_reducible repeat (first | apply Kd.Q_alloc | apply Kd.Q_drewN | apply Kd.Q_drew)); exact HO160.out⟩, ⟨by repeat (first | (with_reducible first | exact HB.out | apply below_alloc | apply pw_below_drewN | apply below_drew1) | exact HB.out)⟩⟩
                    · rw [if_neg c15] at H
                      exact absurd H (by simp)
                  · rw [if_neg c14] at H
                    have c14b0 : ((rd x5_2 0) == 0) = false := beq_eq_false_iff_ne.mpr c14
                    have c14b1 : ((rd x5_2 0) != 0) = true := bne_iff_ne.mpr c14
                    have H' := Aside0.mk H
                    clear H
                    obtain ⟨Ao18, co18, eo18, _⟩ := Kd.Q_slice HO_5.out
                    subst eo18
                    have p157 : 0 ≤ (0 : Int) := (by omega)
                    have q157 : 0 < (x5_2.length : Int) := of_decide_eq_true (by first | (with_reducible assumption) | assumption)
                    obtain ⟨ad157, e157, hx157_0⟩ := Kd.at_int (Kd.Q_reads' HO_5.out).2.2 0 p157 q157
                    cases e157
                    have qi157 : (0 < x5_2.length) = True := eq_true (by omega)
                    (try rw [show ((0 : Int)).toNat = 0 from rfl] at hx157_0)
                    (try rw [Addr.add_zero'] at hx157_0)
                    replace p157 := eq_true p157
                    replace q157 := eq_true q157
                    go_wp2
                    go_meet
                    case rel => exact ⟨_, (x5_2), H', ⟨by have := HK1.out; have := HK2.out; first | omega | exact Nat.le_refl _⟩, ⟨by (with_reducible repeat (first | apply Kd.Q_alloc | apply Kd.Q_drewN | apply Kd.Q_drew)); exact HO_5.out⟩, ⟨by repeat (first | (with_reducible first | exact HB.out | apply below_alloc | apply pw_below_drewN | apply below_drew1) | exact HB.out)⟩⟩
                · rw [if_neg c13] at H
                  exact absurd H (by simp)
              · rw [if_neg c12] at H
                have c12b0 : decide (0 < (x5_2.length : Int)) = false := decide_eq_false c12
                have c12b1 : decide (0 < x5_2.length) = false := decide_eq_false (by omega)
                clear c12
                (first | rw [c12b0] | (simp only [i64_w, i32_w]; rw [c12b0]) | skip)
                have H' := Aside0.mk H
                clear H
                obtain ⟨Ao19, co19, eo19, _⟩ := Kd.Q_slice HO_5.out
                subst eo19
                go_wp2
                go_meet
                case rel => exact ⟨_, (x5_2), H', ⟨by have := HK1.out; have := HK2.out; first | omega | exact Nat.le_refl _⟩, ⟨by (with_reducible repeat (first | apply Kd.Q_alloc | apply Kd.Q_drewN | apply Kd.Q_drew)); exact HO_5.out⟩, ⟨by repeat (first | (with_reducible first | exact HB.out | apply below_alloc | apply pw_below_drewN | apply below_drew1) | exact HB.out)⟩⟩
        case rest =>
          clear HC11
          try clear c1
          try clear p1
          try clear q1
          try clear hx1
          try clear qi1
          try clear p2
          try clear c3
          try clear c3b0
          try clear c4
          try clear c4b0
          try clear c5
          try clear c5b0
          try clear c6
          try clear c6b0
          try clear p6
          try clear c7
          try clear c12
          try clear c12b0
          try clear c12b1
          try clear c13
          try clear c13b0
          try clear c13b1
          try clear c14
          try clear c14b0
          try clear c14b1
          try clear c15
          try clear c15b0
          try clear c15b1
          try clear p15
          try clear q15
          try clear hx15
          try clear qi15
          try clear c17
          try clear q17
          try clear hx153_0
          try clear hx157_0
          try clear p1
          try clear p153
          try clear p157
          try clear p2
          try clear p6
          try clear q1
          try clear q153
          try clear q157
          try clear q17
          obtain ⟨kq, x5_10, HA, HJ10, HO_5, HB⟩ := hcut
          cases kq with
          | zero => exact absurd HA.out (by simp [laws_numberDigits.j2])
          | succ kj10 =>
            have H := HA.out
            clear HA
            simp only [laws_numberDigits.j2] at H
            have H' := Aside0.mk H
            clear H
            go_wp2
            go_loopg [5] kj10 (fun kq v5 w' => ∃ (x5_3 : List Int), Aside0 (laws_numberDigits.l2 kq x5_3 = some r) ∧ Aside0 (kq ≤ kj10) ∧ Aside0 (Kd.Q (Kd.int .u8) 5 w' w.heap.size (fun _ => True) v5 x5_3) ∧ Aside0 (Below w.heap.size w w'))
            case atStart => exact ⟨(x5_10), H', ⟨Nat.le_refl _⟩, ⟨by (with_reducible repeat (first | apply Kd.Q_alloc | apply Kd.Q_drewN | apply Kd.Q_drew)); exact HO_5.out⟩, ⟨by repeat (first | (with_reducible first | exact HB.out | apply below_alloc | apply pw_below_drewN | apply below_drew1) | exact HB.out)⟩⟩
            case round =>
              clear H'
              try clear c1
              try clear p1
              try clear q1
              try clear hx1
              try clear qi1
              try clear p2
              try clear c3
              try clear c3b0
              try clear c4
              try clear c4b0
              try clear c5
              try clear c5b0
              try clear c6
              try clear c6b0
              try clear p6
              try clear c7
              try clear c12
              try clear c12b0
              try clear c12b1
              try clear c13
              try clear c13b0
              try clear c13b1
              try clear c14
              try clear c14b0
              try clear c14b1
              try clear c15
              try clear c15b0
              try clear c15b1
              try clear p15
              try clear q15
              try clear hx15
              try clear qi15
              try clear c17
              try clear q17
              try clear hx153_0
              try clear hx157_0
              try clear p1
              try clear p15
              try clear p153
              try clear p157
              try clear p2
              try clear p6
              try clear q1
              try clear q15
              try clear q153
              try clear q157
              try clear q17
              obtain ⟨x5_3, HA, HK3, HO_5, HB⟩ := hrel
              cases gk with
              | zero => exact absurd HA.out (by simp [laws_numberDigits.l2])
              | succ k3 =>
                have H := HA.out
                clear HA
                simp only [laws_numberDigits.l2] at H
                by_cases c20 : (x5_3.length : Int) > 0
                · rw [if_pos c20] at H
                  have c20b0 : decide (0 < (x5_3.length : Int)) = true := decide_eq_true c20
                  have c20b1 : decide (0 < x5_3.length) = true := decide_eq_true (by omega)
                  clear c20
                  obtain ⟨ji21, hji21⟩ : ∃ j_ : Int, (wrap64 ((x5_3.length : Int) - 1)) = j_ := ⟨_, rfl⟩
                  replace H : (if 0 ≤ (ji21) then (if (ji21) < (x5_3.length : Int) then (if (rd x5_3 (ji21)) = 0 then (if (ji21) ≤ (x5_3.length : Int) then (laws_numberDigits.l2 k3 (x5_3.take ((ji21) : Int).toNat)) else (none)) else (some x5_3)) else (none)) else (none)) = some r := by first | (rw [hji21] at H; exact H) | (simp only [hji21] at H ⊢; exact H)
                  have hji21w : (IntKind.i64.wrap ((x5_3.length : Int) - 1)) = ji21 := (i64_w _).trans hji21
                  by_cases c22 : 0 ≤ (ji21)
                  · rw [if_pos c22] at H
                    have c22b0 : decide (0 ≤ (ji21)) = true := decide_eq_true c22
                    clear c22
                    by_cases c23 : (ji21) < (x5_3.length : Int)
                    · rw [if_pos c23] at H
                      have c23b0 : decide ((ji21) < (x5_3.length : Int)) = true := decide_eq_true c23
                      clear c23
                      by_cases c24 : (rd x5_3 (ji21)) = 0
                      · rw [if_pos c24] at H
                        have c24b0 : ((rd x5_3 (ji21)) == 0) = true := beq_iff_eq.mpr c24
                        have c24b1 : ((rd x5_3 (ji21)) != 0) = false := bne_eq_false_iff_eq.mpr c24
                        clear c24
                        by_cases c25 : (ji21) ≤ (x5_3.length : Int)
                        · rw [if_pos c25] at H
                          have c25b0 := eq_true c25
                          have c25b1 : decide ((ji21) ≤ (x5_3.length : Int)) = true := decide_eq_true c25
                          clear c25
                          obtain ⟨y162, hy162⟩ : ∃ y_ : List Int, y_ = (x5_3.take ((ji21) : Int).toNat) := ⟨_, rfl⟩
                          replace H : (laws_numberDigits.l2 k3 y162) = some r := by first | (rw [hy162]; with_reducible exact H) | (have H2_ := (Option.bind_some _ _).symm.trans H; rw [hy162]; with_reducible exact H2_) | (have H2_ := (Option.bind_some _ _).symm.trans H; with_reducible exact H2_) | with_reducible exact H | (rw [hy162]; exact H) | exact H
                          have Ny162 := Aside0.mk hy162
                          clear hy162
                          have H' := Aside0.mk H
                          clear H
                          obtain ⟨Ao26, co26, eo26, _⟩ := Kd.Q_slice HO_5.out
                          subst eo26
                          have p161 : 0 ≤ ((ji21) : Int) := of_decide_eq_true (by first | (with_reducible assumption) | assumption)
                          have q161 : (ji21) < (x5_3.length : Int) := of_decide_eq_true (by first | (with_reducible assumption) | assumption)
                          obtain ⟨ad161, e161, hx161_0⟩ := Kd.at_int (Kd.Q_reads' HO_5.out).2.2 (ji21) p161 q161
                          cases e161
                          replace p161 := eq_true p161
                          replace q161 := eq_true q161
                          have q27 : ((ji21) : Int) ≤ ((x5_3.length : Int) : Int) := of_decide_eq_true (by first | (with_reducible assumption) | assumption)
                          obtain ⟨i027, hi027, _, hsz27, _⟩ := info_parts info5
                          have hcut27 := cut_to (P := Tryd.prog) 22 5 .i64 Tryd.underlying22 hi027 (some ad161) x5_3.length co26 (ji21) (of_decide_eq_true (by first | (with_reducible assumption) | assumption)) q27 (Kd.Q_reads' HO_5.out).2.1
                          have hr27 := Kd.Q_take (m := ((ji21) : Int).toNat) HO_5.out (by omega)
                          have hy27 : y162.length = ((ji21) : Int).toNat := (by rw [Ny162.out, List.length_take]; omega)
                          rw [← Ny162.out] at hr27
                          rw [← hy27] at hr27 hcut27
                          clear hy27 hi027 hsz27 HO_5
                          have HO164 := Aside0.mk hr27
                          clear hr27
                          replace q27 := eq_true q27
                          go_wp2
                          go_roundg k3
                          case measure => have := HK1.out; have := HJ10.out; have := HK3.out; omega
                          case rel => exact ⟨(y162), H', ⟨by have := HK1.out; have := HJ10.out; have := HK3.out; omega⟩, ⟨by (with_reducible repeat (first | apply Kd.Q_alloc | apply Kd.Q_drewN | apply Kd.Q_drew)); exact HO164.out⟩, ⟨by repeat (first | (with_reducible first | exact HB.out | apply below_alloc | apply pw_below_drewN | apply below_drew1) | exact HB.out)⟩⟩
                        · rw [if_neg c25] at H
                          exact absurd H (by simp)
                      · rw [if_neg c24] at H
                        have c24b0 : ((rd x5_3 (ji21)) == 0) = false := beq_eq_false_iff_ne.mpr c24
                        have c24b1 : ((rd x5_3 (ji21)) != 0) = true := bne_iff_ne.mpr c24
                        obtain rfl := Option.some.inj H
                        obtain ⟨Ao28, co28, eo28, _⟩ := Kd.Q_slice HO_5.out
                        subst eo28
                        have p161 : 0 ≤ ((ji21) : Int) := of_decide_eq_true (by first | (with_reducible assumption) | assumption)
                        have q161 : (ji21) < (x5_3.length : Int) := of_decide_eq_true (by first | (with_reducible assumption) | assumption)
                        obtain ⟨ad161, e161, hx161_0⟩ := Kd.at_int (Kd.Q_reads' HO_5.out).2.2 (ji21) p161 q161
                        cases e161
                        replace p161 := eq_true p161
                        replace q161 := eq_true q161
                        go_wp2
                        go_ret
                        exact ⟨_, by first | rfl | (simp [errW_none, errW_some] <;> rfl) | (simp only [← hji21]; first | rfl | (simp [errW_none, errW_some] <;> rfl)) | (simp [*, errW_none, errW_some] <;> rfl), by (with_reducible repeat (first | apply Kd.Q_alloc | apply Kd.Q_drewN | apply Kd.Q_drew)); exact HO_5.out, by repeat (first | (with_reducible first | exact HB.out | apply below_alloc | apply pw_below_drewN | apply below_drew1) | exact HB.out)⟩
                    · rw [if_neg c23] at H
                      exact absurd H (by simp)
                  · rw [if_neg c22] at H
                    exact absurd H (by simp)
                · rw [if_neg c20] at H
                  have c20b0 : decide (0 < (x5_3.length : Int)) = false := decide_eq_false c20
                  have c20b1 : decide (0 < x5_3.length) = false := decide_eq_false (by omega)
                  clear c20
                  obtain rfl := Option.some.inj H
                  obtain ⟨Ao29, co29, eo29, _⟩ := Kd.Q_slice HO_5.out
                  subst eo29
                  go_wp2
                  go_ret
                  exact ⟨_, by first | rfl | (simp [errW_none, errW_some] <;> rfl) | (simp [*, errW_none, errW_some] <;> rfl), by (with_reducible repeat (first | apply Kd.Q_alloc | apply Kd.Q_drewN | apply Kd.Q_drew)); exact HO_5.out, by repeat (first | (with_reducible first | exact HB.out | apply below_alloc | apply pw_below_drewN | apply below_drew1) | exact HB.out)⟩

-- GIVEN: function 33 (converters_ToNumber)

/-! ### impl_NumberMade: function 15 -/
def impl_NumberMade.f (l0 : List Int) (a1 : Bool) (a2 : Int) : Option (List Int) := (bytes_Clone.f l0).bind fun t165 => ((converters_ToNumber.f t165 a1 a2).bind fun t168 => (some t168))
set_option maxHeartbeats 8000000 in
set_option maxRecDepth 100000 in
theorem impl_NumberMade.calls (A0 : Option Addr) (c0 : Nat) (l0 : List Int) (a1 : Bool) (a2 : Int) (r : List Int) (w : World) (hr0 : Kd.C (Kd.int .u8) w A0 l0.length l0) (hc0 : l0.length ≤ c0) (h : impl_NumberMade.f l0 a1 a2 = some r) :
    Calls Tryd.prog 15 #[.slice A0 l0.length c0, .bool a1, .int .i64 a2] w fun e w' => ∃ v0_ : Value, e = .returned (v0_) ∧ Kd.R (Kd.int .u8) 5 w' w.heap.size (fun _ => True) v0_ r ∧ Below w.heap.size w w' := by
  have HR0 := Aside0.mk hr0
  have HC0 := Aside0.mk hc0
  clear hr0 hc0
  have HB := Aside0.mk (Below.refl w.heap.size w)
  have H : ((bytes_Clone.f l0).bind fun t165 => ((converters_ToNumber.f t165 a1 a2).bind fun t168 => (some t168))) = some r := h
  clear h
  replace H := Option.bind_eq_some_iff.mp H
  obtain ⟨t165, A40, H⟩ := H
  replace H : ((converters_ToNumber.f t165 a1 a2).bind fun t168 => (some t168)) = some r := H
  have A4 := Aside0.mk A40
  clear A40
  replace H := Option.bind_eq_some_iff.mp H
  obtain ⟨t168, A50, H⟩ := H
  replace H : (some t168) = some r := H
  have A5 := Aside0.mk A50
  clear A50
  obtain rfl := Option.some.inj H
  go_enter Tryd.func15, Tryd.ntmps15
  go_wp2_with (first | ((with_reducible refine gate_callee (f := 27) rfl ?_); refine goesL_ (some 8) rfl rfl Tryd.func27 (by kernel_rfl) rfl #[.slice A0 l0.length c0] rfl (by (try simp only [List.map_toArray, List.map_cons, List.map_nil]); first | done | rfl | (simp only [List.length_drop, List.length_take]; rfl)) ?_; (with_reducible refine (bytes_Clone.calls _ _ l0 t165 _ ?side1 ?side2 A4.out).mono ?_); (case side1 => repeat (first | exact HR0.out | (with_reducible refine Kd.C_alloc ?_ _) | (with_reducible refine Kd.C_drewN ?_ _) | (with_reducible refine Kd.C_drew ?_))); (case side2 => exact HC0.out); rintro e w6 ⟨v166, rfl, ho0, hb⟩; refine ⟨_, rfl, ?_⟩; have n0_ := Aside0.mk (Kd.R_lower ho0 (below_size (by repeat (first | (with_reducible first | exact HB.out | apply below_alloc | apply pw_below_drewN | apply below_drew1) | exact HB.out)))); have n1_ := Aside0.mk (below_step (by repeat (first | (with_reducible first | exact HB.out | apply below_alloc | apply pw_below_drewN | apply below_drew1) | exact HB.out)) hb); clear HB; have HO167 := n0_; have HB := n1_; clear n0_ n1_; (try clear hb); (try clear hb2); (try clear hk); (try clear hi); (try clear ho0); obtain ⟨Ao7, co7, eo7⟩ := Kd.R_slice HO167.out; subst eo7) | ((with_reducible refine gate_callee (f := 33) rfl ?_); refine goesL_ (some 11) rfl rfl Tryd.func33 (by kernel_rfl) rfl #[.slice Ao7 t165.length co7, .bool a1, .int .i64 a2] rfl (by (try simp only [List.map_toArray, List.map_cons, List.map_nil]); first | done | rfl | (simp only [List.length_drop, List.length_take]; rfl)) ?_; (with_reducible refine (converters_ToNumber.calls _ _ t165 a1 a2 t168 _ ?side1 ?side2 A5.out).mono ?_); (case side1 => repeat (first | exact (Kd.R_reads' HO167.out).2.2 | (with_reducible refine Kd.C_alloc ?_ _) | (with_reducible refine Kd.C_drewN ?_ _) | (with_reducible refine Kd.C_drew ?_))); (case side2 => exact (Kd.R_reads' HO167.out).2.1); rintro e w8 ⟨v169, rfl, ho0, hb⟩; refine ⟨_, rfl, ?_⟩; have n0_ := Aside0.mk (Kd.R_elder' (by (with_reducible repeat (first | apply Kd.R_alloc | apply Kd.R_drewN | apply Kd.R_drew)); exact HO167.out) (Kd.R_base ho0) hb); have n1_ := Aside0.mk (Kd.R_lower (Kd.R_new' ho0 (Kd.R_lt (by (with_reducible repeat (first | apply Kd.R_alloc | apply Kd.R_drewN | apply Kd.R_drew)); exact HO167.out))) (below_size (by repeat (first | (with_reducible first | exact HB.out | apply below_alloc | apply pw_below_drewN | apply below_drew1) | exact HB.out)))); have n2_ := Aside0.mk (below_step (by repeat (first | (with_reducible first | exact HB.out | apply below_alloc | apply pw_below_drewN | apply below_drew1) | exact HB.out)) hb); clear HO167; clear HB; have HO167 := n0_; have HO170 := n1_; have HB := n2_; clear n0_ n1_ n2_; (try clear hb); (try clear hb2); (try clear hk); (try clear hi); (try clear ho0)))
  go_ret
  exact ⟨_, by first | rfl | (simp [errW_none, errW_some] <;> rfl) | (simp [*, errW_none, errW_some] <;> rfl), by (with_reducible repeat (first | apply Kd.R_alloc | apply Kd.R_drewN | apply Kd.R_drew)); exact Kd.R_mono HO170.out (fun _ hk => trivial), by repeat (first | (with_reducible first | exact HB.out | apply below_alloc | apply pw_below_drewN | apply below_drew1) | exact HB.out)⟩

/-! ### laws_numberLetters: function 16 -/
def laws_numberLetters.l0 : Nat → List Int → List Int → Int → Int → Option (List Int)
  | 0, _, _, _, _ => none
  | k + 1, x3, x7, x8, x9 => if x9 < x8 then (if 0 ≤ x9 then (if x9 < (x7.length : Int) then (if x3.length < 140737488355328 then (laws_numberLetters.l0 k (x3 ++ [(48 + (rd x7 x9)) % 256]) x7 x8 (wrap64 (x9 + 1))) else (none)) else (none)) else (none)) else (some x3)
def laws_numberLetters.f (k : Nat) (l0 : List Int) : Option (List Int) := laws_numberLetters.l0 k (([] : List Int)) l0 (l0.length : Int) 0
theorem laws_numberLetters.mono_l : ∀ k, (∀ y0 y1 y2 y3, LeO (laws_numberLetters.l0 k y0 y1 y2 y3) (laws_numberLetters.l0 (k + 1) y0 y1 y2 y3))
  | 0 => fun _ _ _ _ r h => by simp [laws_numberLetters.l0] at h
  | k + 1 => by
    have ih0 := laws_numberLetters.mono_l k
    · intro y0 y1 y2 y3
      unfold laws_numberLetters.l0
      repeat' first
      | (with_reducible exact ih0 _ _ _ _)
      | (with_reducible exact LeO.refl _)
      | (with_reducible exact LeO.none _)
      | (with_reducible refine LeO.ite ?_ ?_)
      | (with_reducible refine LeO.bind ?_ (fun _ => ?_))
      | exact ih0 _ _ _ _
      | exact LeO.none _
      | refine LeO.ite ?_ ?_
      | refine LeO.bind ?_ (fun _ => ?_)
theorem laws_numberLetters.mono : ∀ a0 k, LeO (laws_numberLetters.f k a0) (laws_numberLetters.f (k + 1) a0) := by
  intro a0 k
  have ih0 := laws_numberLetters.mono_l k
  unfold laws_numberLetters.f
  repeat' first
      | (with_reducible exact ih0 _ _ _ _)
      | (with_reducible exact LeO.refl _)
      | (with_reducible exact LeO.none _)
      | (with_reducible refine LeO.ite ?_ ?_)
      | (with_reducible refine LeO.bind ?_ (fun _ => ?_))
      | exact ih0 _ _ _ _
      | exact LeO.none _
      | refine LeO.ite ?_ ?_
      | refine LeO.bind ?_ (fun _ => ?_)
set_option maxHeartbeats 8000000 in
set_option maxRecDepth 100000 in
theorem laws_numberLetters.calls (k : Nat) (A0 : Option Addr) (c0 : Nat) (l0 : List Int) (r : List Int) (w : World) (hr0 : Kd.C (Kd.int .u8) w A0 l0.length l0) (hc0 : l0.length ≤ c0) (h : laws_numberLetters.f k l0 = some r) :
    Calls Tryd.prog 16 #[.slice A0 l0.length c0] w fun e w' => ∃ v0_ : Value, e = .returned (v0_) ∧ Kd.R (Kd.int .u8) 5 w' w.heap.size (fun _ => True) v0_ r ∧ Below w.heap.size w w' := by
  have HR0 := Aside0.mk hr0
  have HC0 := Aside0.mk hc0
  clear hr0 hc0
  have HB := Aside0.mk (Below.refl w.heap.size w)
  have H : (laws_numberLetters.l0 k (([] : List Int)) l0 (l0.length : Int) 0) = some r := h
  clear h
  obtain ⟨y171, hy171⟩ : ∃ y_ : List Int, y_ = (([] : List Int)) := ⟨_, rfl⟩
  replace H : (laws_numberLetters.l0 k y171 l0 (l0.length : Int) 0) = some r := by first | (rw [hy171]; with_reducible exact H) | (have H2_ := (Option.bind_some _ _).symm.trans H; rw [hy171]; with_reducible exact H2_) | (have H2_ := (Option.bind_some _ _).symm.trans H; with_reducible exact H2_) | with_reducible exact H | (rw [hy171]; exact H) | exact H
  have Ny171 := Aside0.mk hy171
  clear hy171
  have H' := Aside0.mk H
  clear H
  go_enter Tryd.func16, Tryd.ntmps16
  go_wp2_with (first | ((with_reducible refine gate_dst (N := 6) rfl ?_); refine Kd.R_lit (Kd.int .u8) _ 5 ?hg (N := 6) ?hd (xs := ([] : List Int)) (inner := []) (ok := fun _ => True) (okp := fun _ => True) ?hr ?hp (fun _ hk => hk) trivial (Below.refl _ _) (Nat.le_refl _) (by simp) ?_; (case hd => rfl); (case hg => rfl); (case hr => first | (go_simp; done) | (go_simp; rfl)); (case hp => exact (Reps.none _ _)); intro v172 w2 ho3 hb hg_ hnew_; clear hg_ hnew_; (first | rw [← Ny171.out] at ho3 | (simp only [Int.reduceToNat] at ho3; rw [← Ny171.out] at ho3)); have n0_ := Aside0.mk (Kd.R_lower ho3 (below_size (by repeat (first | (with_reducible first | exact HB.out | apply below_alloc | apply pw_below_drewN | apply below_drew1) | exact HB.out)))); have n1_ := Aside0.mk (below_step (by repeat (first | (with_reducible first | exact HB.out | apply below_alloc | apply pw_below_drewN | apply below_drew1) | exact HB.out)) hb); clear HB; have HO173 := n0_; have HB := n1_; clear n0_ n1_; clear hb ho3))
  go_loopg [3, 9] k (fun kq v3 v9 w' => ∃ (x3_1 : List Int) (x9_1 : Int), v9 = .int .i64 x9_1 ∧ Aside0 (laws_numberLetters.l0 kq x3_1 l0 (l0.length : Int) x9_1 = some r) ∧ Aside0 (kq ≤ k) ∧ Aside0 (Kd.R (Kd.int .u8) 5 w' w.heap.size (fun _ => True) v3 x3_1) ∧ Aside0 (Below w.heap.size w w'))
  case atStart => exact ⟨(y171), (0), (by first | rfl | (simp; done) | (simp [*]; done)), H', ⟨Nat.le_refl _⟩, ⟨by (with_reducible repeat (first | apply Kd.R_alloc | apply Kd.R_drewN | apply Kd.R_drew)); exact HO173.out⟩, ⟨by repeat (first | (with_reducible first | exact HB.out | apply below_alloc | apply pw_below_drewN | apply below_drew1) | exact HB.out)⟩⟩
  case round =>
    clear H'
    try clear c1
    try clear p2
    obtain ⟨x3_1, x9_1, rfl, HA, HK1, HO_3, HB⟩ := hrel
    cases gk with
    | zero => exact absurd HA.out (by simp [laws_numberLetters.l0])
    | succ k1 =>
      have H := HA.out
      clear HA
      simp only [laws_numberLetters.l0] at H
      by_cases c4 : x9_1 < (l0.length : Int)
      · rw [if_pos c4] at H
        have c4b0 : decide (x9_1 < (l0.length : Int)) = true := decide_eq_true c4
        clear c4
        by_cases c5 : 0 ≤ x9_1
        · rw [if_pos c5] at H
          have c5b0 : decide (0 ≤ x9_1) = true := decide_eq_true c5
          clear c5
          by_cases c6 : x9_1 < (l0.length : Int)
          · rw [if_pos c6] at H
            have c6b0 : decide (x9_1 < (l0.length : Int)) = true := decide_eq_true c6
            clear c6
            by_cases c7 : x3_1.length < 140737488355328
            · rw [if_pos c7] at H
              have LMc7 := Aside0.mk c7
              clear c7
              obtain ⟨y175, hy175⟩ : ∃ y_ : List Int, y_ = (x3_1 ++ [(48 + (rd l0 x9_1)) % 256]) := ⟨_, rfl⟩
              replace H : (laws_numberLetters.l0 k1 y175 l0 (l0.length : Int) (wrap64 (x9_1 + 1))) = some r := by first | (rw [hy175]; with_reducible exact H) | (have H2_ := (Option.bind_some _ _).symm.trans H; rw [hy175]; with_reducible exact H2_) | (have H2_ := (Option.bind_some _ _).symm.trans H; with_reducible exact H2_) | with_reducible exact H | (rw [hy175]; exact H) | exact H
              have Ny175 := Aside0.mk hy175
              clear hy175
              have H' := Aside0.mk H
              clear H
              have p174 : 0 ≤ (x9_1 : Int) := of_decide_eq_true (by first | (with_reducible assumption) | assumption)
              have q174 : x9_1 < (l0.length : Int) := of_decide_eq_true (by first | (with_reducible assumption) | assumption)
              obtain ⟨ad174, e174, hx174_0⟩ := Kd.at_int HR0.out x9_1 p174 q174
              cases e174
              replace hx174_0 := (HB.out.cell (World.block_lt_of_cell? w _ hx174_0)).trans hx174_0
              replace p174 := eq_true p174
              replace q174 := eq_true q174
              go_wp2_with (first | ((with_reducible refine gate_builtin (b := .append) (xs := #[.tmp 13, .tmp 16]) rfl ?_); at_builtin; refine Kd.R_append (Kd.int .u8) (w0 := w) w.heap.size rfl (.tmp 13) (.tmp 16) 22 5 (.int .u8 0) 1 rfl Tryd.underlying22 info5 rfl (by decide) (by omega) u3 x3_1 ((48 + (rd l0 x9_1)) % 256) [.int .u8 ((48 + (rd l0 x9_1)) % 256)] (fun _ => True) (fun _ => False) rfl rfl ?aP (fun _ hk => hk.elim) ?aF ?aO ?aB ?aS ?aL ?_; (case aP => exact rfl); (case aB => exact (by repeat (first | (with_reducible first | exact HB.out | apply below_alloc | apply pw_below_drewN | apply below_drew1) | exact HB.out))); (case aF => exact (fun _ _ => trivial)); (case aO => exact (by (with_reducible repeat (first | apply Kd.R_alloc | apply Kd.R_drewN | apply Kd.R_drew)); exact HO_3.out)); (case aS => exact (below_size (by repeat (first | (with_reducible first | exact HB.out | apply below_alloc | apply pw_below_drewN | apply below_drew1) | exact HB.out)))); (case aL => have := LMc7.out; omega); intro v176 w8 ho hb hg hat; rw [← Ny175.out] at ho; have n0_ := Aside0.mk (hb); have n1_ := Aside0.mk (ho); clear HB; clear HO_3; have HB := n0_; have HO177 := n1_; clear n0_ n1_; clear ho hb hg hat))
              go_roundg k1
              case measure => have := HK1.out; omega
              case rel => exact ⟨(y175), (wrap64 (x9_1 + 1)), (by first | rfl | (simp; done) | (simp [*]; done)), H', ⟨by have := HK1.out; omega⟩, ⟨by (with_reducible repeat (first | apply Kd.R_alloc | apply Kd.R_drewN | apply Kd.R_drew)); exact HO177.out⟩, ⟨by repeat (first | (with_reducible first | exact HB.out | apply below_alloc | apply pw_below_drewN | apply below_drew1) | exact HB.out)⟩⟩
            · rw [if_neg c7] at H
              exact absurd H (by simp)
          · rw [if_neg c6] at H
            exact absurd H (by simp)
        · rw [if_neg c5] at H
          exact absurd H (by simp)
      · rw [if_neg c4] at H
        have c4b0 : decide (x9_1 < (l0.length : Int)) = false := decide_eq_false c4
        clear c4
        obtain rfl := Option.some.inj H
        go_wp2
        go_ret
        exact ⟨_, by first | rfl | (simp [errW_none, errW_some] <;> rfl) | (simp [*, errW_none, errW_some] <;> rfl), by (with_reducible repeat (first | apply Kd.R_alloc | apply Kd.R_drewN | apply Kd.R_drew)); exact HO_3.out, by repeat (first | (with_reducible first | exact HB.out | apply below_alloc | apply pw_below_drewN | apply below_drew1) | exact HB.out)⟩

end Go.Proofs.YtepooaejlofkkaaDoor.ZN
