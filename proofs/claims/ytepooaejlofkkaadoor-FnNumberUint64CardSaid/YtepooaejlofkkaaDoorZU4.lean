-- Written by a program of this session (wip/xprint.py), which calls the kit's print.
import Derived.Test.YtepooaejlofkkaaDoorZU0
import Derived.Test.YtepooaejlofkkaaDoorZU3
import Derived.Test.YtepooaejlofkkaaDoorNum
import Derived.Test.YtepooaejlofkkaaDoorCb
import Derived.Test.YtepooaejlofkkaaDoorEu
namespace Go.Proofs.YtepooaejlofkkaaDoor.ZU
open Go.RowKit Go.Proofs.YtepooaejlofkkaaDoor.X Go.Proofs.YtepooaejlofkkaaDoorW.PrintWords Go.Proofs.YtepooaejlofkkaaDoorW.PrintLast Go.Proofs.YtepooaejlofkkaaDoorW.PrintMore
attribute [local go_sem] max2_int min2_int max_two min_two max_three min_three max_four min_four   -- for this text's walks alone
set_option linter.unusedVariables false
set_option linter.unusedSimpArgs false

/-! ### converters_toUInt64: function 68 -/
mutual
def converters_toUInt64.j0 : Nat → List Int → Int → Int → Int → Option (Int × Option Int)
  | 0, _, _, _, _ => none
  | k + 1, x0, x5, x6, x7 => converters_toUInt64.l0 k x0 x5 x6 x7 0 0
def converters_toUInt64.l0 : Nat → List Int → Int → Int → Int → Int → Int → Option (Int × Option Int)
  | 0, _, _, _, _, _, _ => none
  | k + 1, x0, x5, x6, x7, x8, x9 => if x9 < x7 then (if 0 ≤ (wrap64 (x9 + 1)) then (if (wrap64 (x9 + 1)) < (x0.length : Int) then (converters_toUInt64.l0 k x0 x5 x6 x7 (IntKind.u64.wrap ((IntKind.u64.wrap (x8 * 100)) + (IntKind.u64.wrap ((IntKind.u64.wrap (rd x0 (wrap64 (x9 + 1)))) - 1)))) (wrap64 (x9 + 1))) else (none)) else (none)) else (converters_toUInt64.l1 k x8 (wrap64 (x5 - x6)))
def converters_toUInt64.l1 : Nat → Int → Int → Option (Int × Option Int)
  | 0, _, _ => none
  | k + 1, x8, x10 => if x10 ≥ 0 then (converters_toUInt64.l1 k (IntKind.u64.wrap (x8 * 100)) (wrap64 (x10 - 1))) else (some (x8, none))
end
def converters_toUInt64.f (k : Nat) (l0 : List Int) : Option (Int × Option Int) := (converters__isPositive.f l0).bind fun t163 => (if t163 = true then (if 0 < (l0.length : Int) then (if (wrap64 ((l0.length : Int) - 1)) > ((((Go.bits .and .u8 (rd l0 0) 127) - 65) % 256) + 1) then (converters_toUInt64.j0 k l0 (((Go.bits .and .u8 (rd l0 0) 127) - 65) % 256) (wrap64 ((l0.length : Int) - 1)) ((((Go.bits .and .u8 (rd l0 0) 127) - 65) % 256) + 1)) else (converters_toUInt64.j0 k l0 (((Go.bits .and .u8 (rd l0 0) 127) - 65) % 256) (wrap64 ((l0.length : Int) - 1)) (wrap64 ((l0.length : Int) - 1)))) else (none)) else (none))
theorem converters_toUInt64.mono_l : ∀ k, (∀ y0 y1 y2 y3, LeO (converters_toUInt64.j0 k y0 y1 y2 y3) (converters_toUInt64.j0 (k + 1) y0 y1 y2 y3)) ∧ (∀ y0 y1 y2 y3 y4 y5, LeO (converters_toUInt64.l0 k y0 y1 y2 y3 y4 y5) (converters_toUInt64.l0 (k + 1) y0 y1 y2 y3 y4 y5)) ∧ (∀ y0 y1, LeO (converters_toUInt64.l1 k y0 y1) (converters_toUInt64.l1 (k + 1) y0 y1))
  | 0 => ⟨fun _ _ _ _ r h => by simp [converters_toUInt64.j0] at h, fun _ _ _ _ _ _ r h => by simp [converters_toUInt64.l0] at h, fun _ _ r h => by simp [converters_toUInt64.l1] at h⟩
  | k + 1 => by
    obtain ⟨ih0, ih1, ih2⟩ := converters_toUInt64.mono_l k
    refine ⟨?_, ?_, ?_⟩
    · intro y0 y1 y2 y3
      unfold converters_toUInt64.j0
      repeat' first
      | (with_reducible exact ih0 _ _ _ _)
      | (with_reducible exact ih1 _ _ _ _ _ _)
      | (with_reducible exact ih2 _ _)
      | (with_reducible exact LeO.refl _)
      | (with_reducible exact LeO.none _)
      | (with_reducible refine LeO.ite ?_ ?_)
      | (with_reducible refine LeO.bind ?_ (fun _ => ?_))
      | exact ih0 _ _ _ _
      | exact ih1 _ _ _ _ _ _
      | exact ih2 _ _
      | exact LeO.none _
      | refine LeO.ite ?_ ?_
      | refine LeO.bind ?_ (fun _ => ?_)
    · intro y0 y1 y2 y3 y4 y5
      unfold converters_toUInt64.l0
      repeat' first
      | (with_reducible exact ih0 _ _ _ _)
      | (with_reducible exact ih1 _ _ _ _ _ _)
      | (with_reducible exact ih2 _ _)
      | (with_reducible exact LeO.refl _)
      | (with_reducible exact LeO.none _)
      | (with_reducible refine LeO.ite ?_ ?_)
      | (with_reducible refine LeO.bind ?_ (fun _ => ?_))
      | exact ih0 _ _ _ _
      | exact ih1 _ _ _ _ _ _
      | exact ih2 _ _
      | exact LeO.none _
      | refine LeO.ite ?_ ?_
      | refine LeO.bind ?_ (fun _ => ?_)
    · intro y0 y1
      unfold converters_toUInt64.l1
      repeat' first
      | (with_reducible exact ih0 _ _ _ _)
      | (with_reducible exact ih1 _ _ _ _ _ _)
      | (with_reducible exact ih2 _ _)
      | (with_reducible exact LeO.refl _)
      | (with_reducible exact LeO.none _)
      | (with_reducible refine LeO.ite ?_ ?_)
      | (with_reducible refine LeO.bind ?_ (fun _ => ?_))
      | exact ih0 _ _ _ _
      | exact ih1 _ _ _ _ _ _
      | exact ih2 _ _
      | exact LeO.none _
      | refine LeO.ite ?_ ?_
      | refine LeO.bind ?_ (fun _ => ?_)
theorem converters_toUInt64.mono : ∀ a0 k, LeO (converters_toUInt64.f k a0) (converters_toUInt64.f (k + 1) a0) := by
  intro a0 k
  obtain ⟨ih0, ih1, ih2⟩ := converters_toUInt64.mono_l k
  unfold converters_toUInt64.f
  repeat' first
      | (with_reducible exact ih0 _ _ _ _)
      | (with_reducible exact ih1 _ _ _ _ _ _)
      | (with_reducible exact ih2 _ _)
      | (with_reducible exact LeO.refl _)
      | (with_reducible exact LeO.none _)
      | (with_reducible refine LeO.ite ?_ ?_)
      | (with_reducible refine LeO.bind ?_ (fun _ => ?_))
      | exact ih0 _ _ _ _
      | exact ih1 _ _ _ _ _ _
      | exact ih2 _ _
      | exact LeO.none _
      | refine LeO.ite ?_ ?_
      | refine LeO.bind ?_ (fun _ => ?_)
set_option maxHeartbeats 8000000 in
set_option maxRecDepth 100000 in
theorem converters_toUInt64.calls (k : Nat) (A0 : Option Addr) (c0 : Nat) (l0 : List Int) (r1 : Int) (r2 : Option Int) (w : World) (hr0 : Kd.C (Kd.int .u8) w A0 l0.length l0) (hc0 : l0.length ≤ c0) (h : converters_toUInt64.f k l0 = some (r1, r2)) :
    Calls Tryd.prog 68 #[.slice A0 l0.length c0] w fun e w' => e = .returned (.tuple #[.int .u64 r1, errW r2]) ∧ Below w.heap.size w w' := by
  have HR0 := Aside0.mk hr0
  have HC0 := Aside0.mk hc0
  clear hr0 hc0
  have HB := Aside0.mk (Below.refl w.heap.size w)
  have H : ((converters__isPositive.f l0).bind fun t163 => (if t163 = true then (if 0 < (l0.length : Int) then (if (wrap64 ((l0.length : Int) - 1)) > ((((Go.bits .and .u8 (rd l0 0) 127) - 65) % 256) + 1) then (converters_toUInt64.j0 k l0 (((Go.bits .and .u8 (rd l0 0) 127) - 65) % 256) (wrap64 ((l0.length : Int) - 1)) ((((Go.bits .and .u8 (rd l0 0) 127) - 65) % 256) + 1)) else (converters_toUInt64.j0 k l0 (((Go.bits .and .u8 (rd l0 0) 127) - 65) % 256) (wrap64 ((l0.length : Int) - 1)) (wrap64 ((l0.length : Int) - 1)))) else (none)) else (none))) = some (r1, r2) := h
  clear h
  replace H := Option.bind_eq_some_iff.mp H
  obtain ⟨t163, A20, H⟩ := H
  replace H : (if t163 = true then (if 0 < (l0.length : Int) then (if (wrap64 ((l0.length : Int) - 1)) > ((((Go.bits .and .u8 (rd l0 0) 127) - 65) % 256) + 1) then (converters_toUInt64.j0 k l0 (((Go.bits .and .u8 (rd l0 0) 127) - 65) % 256) (wrap64 ((l0.length : Int) - 1)) ((((Go.bits .and .u8 (rd l0 0) 127) - 65) % 256) + 1)) else (converters_toUInt64.j0 k l0 (((Go.bits .and .u8 (rd l0 0) 127) - 65) % 256) (wrap64 ((l0.length : Int) - 1)) (wrap64 ((l0.length : Int) - 1)))) else (none)) else (none)) = some (r1, r2) := H
  have A2 := Aside0.mk A20
  clear A20
  by_cases c3 : t163 = true
  · subst c3
    have H1 : (if 0 < (l0.length : Int) then (if (wrap64 ((l0.length : Int) - 1)) > ((((Go.bits .and .u8 (rd l0 0) 127) - 65) % 256) + 1) then (converters_toUInt64.j0 k l0 (((Go.bits .and .u8 (rd l0 0) 127) - 65) % 256) (wrap64 ((l0.length : Int) - 1)) ((((Go.bits .and .u8 (rd l0 0) 127) - 65) % 256) + 1)) else (converters_toUInt64.j0 k l0 (((Go.bits .and .u8 (rd l0 0) 127) - 65) % 256) (wrap64 ((l0.length : Int) - 1)) (wrap64 ((l0.length : Int) - 1)))) else (none)) = some (r1, r2) := by rw [if_pos rfl] at H; exact H
    clear H
    have H := H1
    clear H1
    by_cases c4 : 0 < (l0.length : Int)
    · rw [if_pos c4] at H
      have c4b0 : decide (0 < (l0.length : Int)) = true := decide_eq_true c4
      have c4b1 : decide (0 < l0.length) = true := decide_eq_true (by omega)
      clear c4
      have HC5 := Aside0.mk H
      clear H
      go_enter Tryd.func68, Tryd.ntmps68
      go_upto_if 43 with (first | ((with_reducible refine gate_callee (f := 79) rfl ?_); refine goesL_ (some 12) rfl rfl Tryd.func79 (by kernel_rfl) rfl #[.slice A0 l0.length c0] rfl (by (try simp only [List.map_toArray, List.map_cons, List.map_nil]); first | done | rfl | (simp only [List.length_drop, List.length_take]; rfl)) ?_; (with_reducible refine (converters__isPositive.calls _ _ l0 true _ ?side1 ?side2 A2.out).mono ?_); (case side1 => repeat (first | exact HR0.out | (with_reducible refine Kd.C_alloc ?_ _) | (with_reducible refine Kd.C_drewN ?_ _) | (with_reducible refine Kd.C_drew ?_))); (case side2 => exact HC0.out); rintro e w' ⟨rfl, ⟨nd, rfl⟩⟩; refine ⟨_, rfl, ?_⟩; have p165 : 0 ≤ (0 : Int) := (by omega); have q165 : 0 < (l0.length : Int) := of_decide_eq_true (by first | (with_reducible assumption) | assumption); obtain ⟨ad165, e165, hx165_0⟩ := Kd.at_int HR0.out 0 p165 q165; cases e165; have qi165 : (0 < l0.length) = True := eq_true (by omega); (try rw [show ((0 : Int)).toNat = 0 from rfl] at hx165_0); (try rw [Addr.add_zero'] at hx165_0); replace p165 := eq_true p165; replace q165 := eq_true q165))
      (try simp only [Act.put, List.setIfInBounds_toArray, List.set_cons_zero, List.set_cons_succ])
      go_cut [7] (fun v7 wc => ∃ (kq : Nat) (x7_4 : Int), v7 = .int .i64 x7_4 ∧ Aside0 (converters_toUInt64.j0 kq l0 (((Go.bits .and .u8 (rd l0 0) 127) - 65) % 256) (wrap64 ((l0.length : Int) - 1)) x7_4 = some (r1, r2)) ∧ Aside0 (kq ≤ k) ∧ Aside0 (Below w.heap.size w wc))
      case first =>
        have H := HC5.out
        clear HC5
        by_cases c6 : (wrap64 ((l0.length : Int) - 1)) > ((((Go.bits .and .u8 (rd l0 0) 127) - 65) % 256) + 1)
        · rw [if_pos c6] at H
          have c6b0 : decide (((((Go.bits .and .u8 (rd l0 0) 127) - 65) % 256) + 1) < (wrap64 ((l0.length : Int) - 1))) = true := decide_eq_true c6
          clear c6
          (first | rw [c6b0] | (simp only [i64_w, i32_w]; rw [c6b0]) | skip)
          have H' := Aside0.mk H
          clear H
          go_wp2
          go_meet
          case rel => exact ⟨_, ((((Go.bits .and .u8 (rd l0 0) 127) - 65) % 256) + 1), (by first | rfl | (simp; done) | (simp [*]; done)), H', ⟨by first | omega | exact Nat.le_refl _⟩, ⟨by repeat (first | (with_reducible first | exact HB.out | apply below_alloc | apply pw_below_drewN | apply below_drew1) | exact HB.out)⟩⟩
        · rw [if_neg c6] at H
          have c6b0 : decide (((((Go.bits .and .u8 (rd l0 0) 127) - 65) % 256) + 1) < (wrap64 ((l0.length : Int) - 1))) = false := decide_eq_false c6
          clear c6
          (first | rw [c6b0] | (simp only [i64_w, i32_w]; rw [c6b0]) | skip)
          have H' := Aside0.mk H
          clear H
          go_wp2
          go_meet
          case rel => exact ⟨_, (wrap64 ((l0.length : Int) - 1)), (by first | rfl | (simp; done) | (simp [*]; done)), H', ⟨by first | omega | exact Nat.le_refl _⟩, ⟨by repeat (first | (with_reducible first | exact HB.out | apply below_alloc | apply pw_below_drewN | apply below_drew1) | exact HB.out)⟩⟩
      case rest =>
        clear HC5
        try clear p1
        try clear q1
        try clear hx1
        try clear qi1
        try clear p2
        try clear c3
        try clear c4
        try clear c4b0
        try clear c4b1
        try clear c6
        try clear c6b0
        try clear p6
        try clear hx165_0
        try clear p165
        try clear q165
        obtain ⟨kq, x7_4, rfl, HA, HJ4, HB⟩ := hcut
        cases kq with
        | zero => exact absurd HA.out (by simp [converters_toUInt64.j0])
        | succ kj4 =>
          have H := HA.out
          clear HA
          simp only [converters_toUInt64.j0] at H
          have H' := Aside0.mk H
          clear H
          go_wp2
          go_loopg [8, 9] kj4 (fun kq v8 v9 w' => ∃ (x8_2 : Int) (x9_2 : Int), v8 = .int .u64 x8_2 ∧ v9 = .int .i64 x9_2 ∧ Aside0 (converters_toUInt64.l0 kq l0 (((Go.bits .and .u8 (rd l0 0) 127) - 65) % 256) (wrap64 ((l0.length : Int) - 1)) x7_4 x8_2 x9_2 = some (r1, r2)) ∧ Aside0 (kq ≤ kj4) ∧ Aside0 (Below w.heap.size w w'))
          case atStart => exact ⟨(0), (0), (by first | rfl | (simp; done) | (simp [*]; done)), (by first | rfl | (simp; done) | (simp [*]; done)), H', ⟨Nat.le_refl _⟩, ⟨by repeat (first | (with_reducible first | exact HB.out | apply below_alloc | apply pw_below_drewN | apply below_drew1) | exact HB.out)⟩⟩
          case round =>
            clear H'
            try clear p1
            try clear q1
            try clear hx1
            try clear qi1
            try clear p2
            try clear c3
            try clear c4
            try clear c4b0
            try clear c4b1
            try clear c6
            try clear c6b0
            try clear p6
            try clear hx165_0
            try clear p1
            try clear p165
            try clear p2
            try clear p6
            try clear q1
            try clear q165
            obtain ⟨x8_2, x9_2, rfl, rfl, HA, HK2, HB⟩ := hrel
            cases gk with
            | zero => exact absurd HA.out (by simp [converters_toUInt64.l0])
            | succ k2 =>
              have H := HA.out
              clear HA
              simp only [converters_toUInt64.l0] at H
              by_cases c7 : x9_2 < x7_4
              · rw [if_pos c7] at H
                have c7b0 : decide (x9_2 < x7_4) = true := decide_eq_true c7
                clear c7
                obtain ⟨ji8, hji8⟩ : ∃ j_ : Int, (wrap64 (x9_2 + 1)) = j_ := ⟨_, rfl⟩
                replace H : (if 0 ≤ (ji8) then (if (ji8) < (l0.length : Int) then (converters_toUInt64.l0 k2 l0 (((Go.bits .and .u8 (rd l0 0) 127) - 65) % 256) (wrap64 ((l0.length : Int) - 1)) x7_4 (IntKind.u64.wrap ((IntKind.u64.wrap (x8_2 * 100)) + (IntKind.u64.wrap ((IntKind.u64.wrap (rd l0 (ji8))) - 1)))) ji8) else (none)) else (none)) = some (r1, r2) := by first | (rw [hji8] at H; exact H) | (simp only [hji8] at H ⊢; exact H)
                have hji8w : (IntKind.i64.wrap (x9_2 + 1)) = ji8 := (i64_w _).trans hji8
                by_cases c9 : 0 ≤ (ji8)
                · rw [if_pos c9] at H
                  have c9b0 : decide (0 ≤ (ji8)) = true := decide_eq_true c9
                  clear c9
                  by_cases c10 : (ji8) < (l0.length : Int)
                  · rw [if_pos c10] at H
                    have c10b0 : decide ((ji8) < (l0.length : Int)) = true := decide_eq_true c10
                    clear c10
                    have H' := Aside0.mk H
                    clear H
                    have p166 : 0 ≤ ((ji8) : Int) := of_decide_eq_true (by first | (with_reducible assumption) | assumption)
                    have q166 : (ji8) < (l0.length : Int) := of_decide_eq_true (by first | (with_reducible assumption) | assumption)
                    obtain ⟨ad166, e166, hx166_0⟩ := Kd.at_int HR0.out (ji8) p166 q166
                    obtain rfl : ad165 = ad166 := (by injection e166)
                    replace hx166_0 := (HB.out.cell (World.block_lt_of_cell? w _ hx166_0)).trans hx166_0
                    replace p166 := eq_true p166
                    replace q166 := eq_true q166
                    go_wp2
                    go_roundg k2
                    case measure => have := HJ4.out; have := HK2.out; omega
                    case rel => exact ⟨(IntKind.u64.wrap ((IntKind.u64.wrap (x8_2 * 100)) + (IntKind.u64.wrap ((IntKind.u64.wrap (rd l0 (ji8))) - 1)))), (ji8), (by first | rfl | (simp; done) | (simp only [← hji8] <;> (first | rfl | simp)) | (simp [*]; done)), (by first | rfl | (simp; done) | (simp only [← hji8] <;> (first | rfl | simp)) | (simp [*]; done)), H', ⟨by have := HJ4.out; have := HK2.out; omega⟩, ⟨by repeat (first | (with_reducible first | exact HB.out | apply below_alloc | apply pw_below_drewN | apply below_drew1) | exact HB.out)⟩⟩
                  · rw [if_neg c10] at H
                    exact absurd H (by simp)
                · rw [if_neg c9] at H
                  exact absurd H (by simp)
              · rw [if_neg c7] at H
                have c7b0 : decide (x9_2 < x7_4) = false := decide_eq_false c7
                clear c7
                have H' := Aside0.mk H
                clear H
                go_wp2
                go_loopg [8, 10] k2 (fun kq v8 v10 w' => ∃ (x8_3 : Int) (x10_3 : Int), v8 = .int .u64 x8_3 ∧ v10 = .int .i64 x10_3 ∧ Aside0 (converters_toUInt64.l1 kq x8_3 x10_3 = some (r1, r2)) ∧ Aside0 (kq ≤ k2) ∧ Aside0 (Below w.heap.size w w'))
                case atStart => exact ⟨(x8_2), (wrap64 ((((Go.bits .and .u8 (rd l0 0) 127) - 65) % 256) - (wrap64 ((l0.length : Int) - 1)))), (by first | rfl | (simp; done) | (simp [*]; done)), (by first | rfl | (simp; done) | (simp [*]; done)), H', ⟨Nat.le_refl _⟩, ⟨by repeat (first | (with_reducible first | exact HB.out | apply below_alloc | apply pw_below_drewN | apply below_drew1) | exact HB.out)⟩⟩
                case round =>
                  clear H'
                  try clear c1
                  try clear p1
                  try clear q1
                  try clear hx1
                  try clear qi1
                  try clear p2
                  try clear c3
                  try clear c4
                  try clear c4b0
                  try clear c4b1
                  try clear c6
                  try clear c6b0
                  try clear p6
                  try clear c7
                  try clear c7b0
                  try clear c9
                  try clear c9b0
                  try clear c10
                  try clear c10b0
                  try clear hx165_0
                  try clear hx166_0
                  try clear p1
                  try clear p165
                  try clear p166
                  try clear p2
                  try clear p6
                  try clear q1
                  try clear q165
                  try clear q166
                  obtain ⟨x8_3, x10_3, rfl, rfl, HA, HK3, HB⟩ := hrel
                  cases gk with
                  | zero => exact absurd HA.out (by simp [converters_toUInt64.l1])
                  | succ k3 =>
                    have H := HA.out
                    clear HA
                    simp only [converters_toUInt64.l1] at H
                    by_cases c11 : x10_3 ≥ 0
                    · rw [if_pos c11] at H
                      have c11b0 : decide (0 ≤ x10_3) = true := decide_eq_true c11
                      clear c11
                      have H' := Aside0.mk H
                      clear H
                      go_wp2
                      go_roundg k3
                      case measure => have := HJ4.out; have := HK2.out; have := HK3.out; omega
                      case rel => exact ⟨(IntKind.u64.wrap (x8_3 * 100)), (wrap64 (x10_3 - 1)), (by first | rfl | (simp; done) | (simp [*]; done)), (by first | rfl | (simp; done) | (simp [*]; done)), H', ⟨by have := HJ4.out; have := HK2.out; have := HK3.out; omega⟩, ⟨by repeat (first | (with_reducible first | exact HB.out | apply below_alloc | apply pw_below_drewN | apply below_drew1) | exact HB.out)⟩⟩
                    · rw [if_neg c11] at H
                      have c11b0 : decide (0 ≤ x10_3) = false := decide_eq_false c11
                      clear c11
                      simp only [Option.some.injEq, Prod.mk.injEq] at H
                      obtain ⟨rfl, rfl⟩ := H
                      go_wp2
                      go_ret2
                      exact ⟨by first | rfl | (simp [errW_none, errW_some] <;> rfl) | (simp [*, errW_none, errW_some] <;> rfl), by repeat (first | (with_reducible first | exact HB.out | apply below_alloc | apply pw_below_drewN | apply below_drew1) | exact HB.out)⟩
    · rw [if_neg c4] at H
      exact absurd H (by simp)
  · replace c3 := Bool.eq_false_iff.mpr c3
    subst c3
    have H1 : (none) = some (r1, r2) := by rw [if_neg (show ¬ (false = true) by decide)] at H; exact H
    clear H
    have H := H1
    clear H1
    exact absurd H (by simp)/-! ### converters_toUInt64Internal: function 56 -/
def converters_toUInt64Internal.j0 : Nat → List Int → Bool → Option (Int × Option Int)
  | 0, _, _ => none
  | k + 1, x0, x23 => if x23 = true then (none) else ((converters_toUInt64.f k x0).bind fun bt172 => (some (bt172.1, bt172.2)))
def converters_toUInt64Internal.f (k : Nat) (l0 : List Int) (l1 : List Int) (l2 : List Int) : Option (Int × Option Int) := (converters__isZero.f l0).bind fun t167 => (if t167 = true then (some (0, none)) else ((converters__isInf.f l0).bind fun t168 => (if t168 = true then (converters_toUInt64Internal.j0 k l0 true) else ((converters_compareBytes.f l0 l1).bind fun t169 => (if t169 > 0 then (converters_toUInt64Internal.j0 k l0 true) else ((converters_compareBytes.f l0 l2).bind fun t170 => (converters_toUInt64Internal.j0 k l0 (decide (t170 < 0)))))))))
theorem converters_toUInt64Internal.mono_l : ∀ k, (∀ y0 y1, LeO (converters_toUInt64Internal.j0 k y0 y1) (converters_toUInt64Internal.j0 (k + 1) y0 y1))
  | 0 => fun _ _ r h => by simp [converters_toUInt64Internal.j0] at h
  | k + 1 => by
    have ih0 := converters_toUInt64Internal.mono_l k
    · intro y0 y1
      unfold converters_toUInt64Internal.j0
      repeat' first
      | (with_reducible exact ih0 _ _)
      | (with_reducible exact converters_toUInt64.mono _ _)
      | (with_reducible exact LeO.refl _)
      | (with_reducible exact LeO.none _)
      | (with_reducible refine LeO.ite ?_ ?_)
      | (with_reducible refine LeO.bind ?_ (fun _ => ?_))
      | exact ih0 _ _
      | exact converters_toUInt64.mono _ _
      | exact LeO.none _
      | refine LeO.ite ?_ ?_
      | refine LeO.bind ?_ (fun _ => ?_)
theorem converters_toUInt64Internal.mono : ∀ a0 a1 a2 k, LeO (converters_toUInt64Internal.f k a0 a1 a2) (converters_toUInt64Internal.f (k + 1) a0 a1 a2) := by
  intro a0 a1 a2 k
  have ih0 := converters_toUInt64Internal.mono_l k
  unfold converters_toUInt64Internal.f
  repeat' first
      | (with_reducible exact ih0 _ _)
      | (with_reducible exact converters_toUInt64.mono _ _)
      | (with_reducible exact LeO.refl _)
      | (with_reducible exact LeO.none _)
      | (with_reducible refine LeO.ite ?_ ?_)
      | (with_reducible refine LeO.bind ?_ (fun _ => ?_))
      | exact ih0 _ _
      | exact converters_toUInt64.mono _ _
      | exact LeO.none _
      | refine LeO.ite ?_ ?_
      | refine LeO.bind ?_ (fun _ => ?_)
set_option maxHeartbeats 8000000 in
set_option maxRecDepth 100000 in
theorem converters_toUInt64Internal.calls (k : Nat) (A0 : Option Addr) (c0 : Nat) (l0 : List Int) (A1 : Option Addr) (c1 : Nat) (l1 : List Int) (A2 : Option Addr) (c2 : Nat) (l2 : List Int) (r1 : Int) (r2 : Option Int) (w : World) (hr0 : Kd.C (Kd.int .u8) w A0 l0.length l0) (hc0 : l0.length ≤ c0) (hr1 : Kd.C (Kd.int .u8) w A1 l1.length l1) (hc1 : l1.length ≤ c1) (hr2 : Kd.C (Kd.int .u8) w A2 l2.length l2) (hc2 : l2.length ≤ c2) (h : converters_toUInt64Internal.f k l0 l1 l2 = some (r1, r2)) :
    Calls Tryd.prog 56 #[.slice A0 l0.length c0, .slice A1 l1.length c1, .slice A2 l2.length c2] w fun e w' => e = .returned (.tuple #[.int .u64 r1, errW r2]) ∧ Below w.heap.size w w' := by
  have HR0 := Aside0.mk hr0
  have HC0 := Aside0.mk hc0
  clear hr0 hc0
  have HR1 := Aside0.mk hr1
  have HC1 := Aside0.mk hc1
  clear hr1 hc1
  have HR2 := Aside0.mk hr2
  have HC2 := Aside0.mk hc2
  clear hr2 hc2
  have HB := Aside0.mk (Below.refl w.heap.size w)
  have H : ((converters__isZero.f l0).bind fun t167 => (if t167 = true then (some (0, none)) else ((converters__isInf.f l0).bind fun t168 => (if t168 = true then (converters_toUInt64Internal.j0 k l0 true) else ((converters_compareBytes.f l0 l1).bind fun t169 => (if t169 > 0 then (converters_toUInt64Internal.j0 k l0 true) else ((converters_compareBytes.f l0 l2).bind fun t170 => (converters_toUInt64Internal.j0 k l0 (decide (t170 < 0)))))))))) = some (r1, r2) := h
  clear h
  replace H := Option.bind_eq_some_iff.mp H
  obtain ⟨t167, A40, H⟩ := H
  replace H : (if t167 = true then (some (0, none)) else ((converters__isInf.f l0).bind fun t168 => (if t168 = true then (converters_toUInt64Internal.j0 k l0 true) else ((converters_compareBytes.f l0 l1).bind fun t169 => (if t169 > 0 then (converters_toUInt64Internal.j0 k l0 true) else ((converters_compareBytes.f l0 l2).bind fun t170 => (converters_toUInt64Internal.j0 k l0 (decide (t170 < 0))))))))) = some (r1, r2) := H
  have A4 := Aside0.mk A40
  clear A40
  by_cases c5 : t167 = true
  · subst c5
    have H1 : (some (0, none)) = some (r1, r2) := by rw [if_pos rfl] at H; exact H
    clear H
    have H := H1
    clear H1
    simp only [Option.some.injEq, Prod.mk.injEq] at H
    obtain ⟨rfl, rfl⟩ := H
    go_enter Tryd.func56, Tryd.ntmps56
    go_wp2_with (first | ((with_reducible refine gate_callee (f := 66) rfl ?_); refine goesL_ (some 9) rfl rfl Tryd.func66 (by kernel_rfl) rfl #[.slice A0 l0.length c0] rfl (by (try simp only [List.map_toArray, List.map_cons, List.map_nil]); first | done | rfl | (simp only [List.length_drop, List.length_take]; rfl)) ?_; (with_reducible refine (converters__isZero.calls _ _ l0 true _ ?side1 ?side2 A4.out).mono ?_); (case side1 => repeat (first | exact HR0.out | (with_reducible refine Kd.C_alloc ?_ _) | (with_reducible refine Kd.C_drewN ?_ _) | (with_reducible refine Kd.C_drew ?_))); (case side2 => exact HC0.out); rintro e w' ⟨rfl, ⟨nd, rfl⟩⟩; refine ⟨_, rfl, ?_⟩))
    go_ret2
    exact ⟨by first | rfl | (simp [errW_none, errW_some] <;> rfl) | (simp [*, errW_none, errW_some] <;> rfl), by repeat (first | (with_reducible first | exact HB.out | apply below_alloc | apply pw_below_drewN | apply below_drew1) | exact HB.out)⟩
  · replace c5 := Bool.eq_false_iff.mpr c5
    subst c5
    have H1 : ((converters__isInf.f l0).bind fun t168 => (if t168 = true then (converters_toUInt64Internal.j0 k l0 true) else ((converters_compareBytes.f l0 l1).bind fun t169 => (if t169 > 0 then (converters_toUInt64Internal.j0 k l0 true) else ((converters_compareBytes.f l0 l2).bind fun t170 => (converters_toUInt64Internal.j0 k l0 (decide (t170 < 0)))))))) = some (r1, r2) := by rw [if_neg (show ¬ (false = true) by decide)] at H; exact H
    clear H
    have H := H1
    clear H1
    have HC6 := Aside0.mk H
    clear H
    go_enter Tryd.func56, Tryd.ntmps56
    go_upto_region 3 with (first | ((with_reducible refine gate_callee (f := 66) rfl ?_); refine goesL_ (some 9) rfl rfl Tryd.func66 (by kernel_rfl) rfl #[.slice A0 l0.length c0] rfl (by (try simp only [List.map_toArray, List.map_cons, List.map_nil]); first | done | rfl | (simp only [List.length_drop, List.length_take]; rfl)) ?_; (with_reducible refine (converters__isZero.calls _ _ l0 false _ ?side1 ?side2 A4.out).mono ?_); (case side1 => repeat (first | exact HR0.out | (with_reducible refine Kd.C_alloc ?_ _) | (with_reducible refine Kd.C_drewN ?_ _) | (with_reducible refine Kd.C_drew ?_))); (case side2 => exact HC0.out); rintro e w' ⟨rfl, ⟨nd, rfl⟩⟩; refine ⟨_, rfl, ?_⟩))
    (try simp only [Act.put, List.setIfInBounds_toArray, List.set_cons_zero, List.set_cons_succ])
    go_cut [23] (fun v23 wc => ∃ (kq : Nat) (x23_5 : Bool), v23 = .bool x23_5 ∧ Aside0 (converters_toUInt64Internal.j0 kq l0 x23_5 = some (r1, r2)) ∧ Aside0 (kq ≤ k) ∧ Aside0 (Below w.heap.size w wc))
    case first =>
      have H := HC6.out
      clear HC6
      replace H := Option.bind_eq_some_iff.mp H
      obtain ⟨t168, A70, H⟩ := H
      replace H : (if t168 = true then (converters_toUInt64Internal.j0 k l0 true) else ((converters_compareBytes.f l0 l1).bind fun t169 => (if t169 > 0 then (converters_toUInt64Internal.j0 k l0 true) else ((converters_compareBytes.f l0 l2).bind fun t170 => (converters_toUInt64Internal.j0 k l0 (decide (t170 < 0))))))) = some (r1, r2) := H
      have A7 := Aside0.mk A70
      clear A70
      by_cases c8 : t168 = true
      · subst c8
        have H1 : (converters_toUInt64Internal.j0 k l0 true) = some (r1, r2) := by rw [if_pos rfl] at H; exact H
        clear H
        have H := H1
        clear H1
        have H' := Aside0.mk H
        clear H
        go_wp2_with (first | ((with_reducible refine gate_callee (f := 67) rfl ?_); refine goesL_ (some 11) rfl rfl Tryd.func67 (by kernel_rfl) rfl #[.slice A0 l0.length c0] rfl (by (try simp only [List.map_toArray, List.map_cons, List.map_nil]); first | done | rfl | (simp only [List.length_drop, List.length_take]; rfl)) ?_; (with_reducible refine (converters__isInf.calls _ _ l0 true _ ?side1 ?side2 A7.out).mono ?_); (case side1 => repeat (first | exact (Kd.C_below HR0.out HB.out) | (with_reducible refine Kd.C_alloc ?_ _) | (with_reducible refine Kd.C_drewN ?_ _) | (with_reducible refine Kd.C_drew ?_))); (case side2 => exact HC0.out); rintro e w' ⟨rfl, ⟨nd, rfl⟩⟩; refine ⟨_, rfl, ?_⟩))
        go_meet
        case rel => exact ⟨_, (true), (by first | rfl | (simp; done) | (simp [*]; done)), H', ⟨by first | omega | exact Nat.le_refl _⟩, ⟨by repeat (first | (with_reducible first | exact HB.out | apply below_alloc | apply pw_below_drewN | apply below_drew1) | exact HB.out)⟩⟩
      · replace c8 := Bool.eq_false_iff.mpr c8
        subst c8
        have H1 : ((converters_compareBytes.f l0 l1).bind fun t169 => (if t169 > 0 then (converters_toUInt64Internal.j0 k l0 true) else ((converters_compareBytes.f l0 l2).bind fun t170 => (converters_toUInt64Internal.j0 k l0 (decide (t170 < 0)))))) = some (r1, r2) := by rw [if_neg (show ¬ (false = true) by decide)] at H; exact H
        clear H
        have H := H1
        clear H1
        replace H := Option.bind_eq_some_iff.mp H
        obtain ⟨t169, A90, H⟩ := H
        replace H : (if t169 > 0 then (converters_toUInt64Internal.j0 k l0 true) else ((converters_compareBytes.f l0 l2).bind fun t170 => (converters_toUInt64Internal.j0 k l0 (decide (t170 < 0))))) = some (r1, r2) := H
        have A9 := Aside0.mk A90
        clear A90
        by_cases c10 : t169 > 0
        · rw [if_pos c10] at H
          have c10b0 : decide (0 < t169) = true := decide_eq_true c10
          clear c10
          (first | rw [c10b0] | (simp only [i64_w, i32_w]; rw [c10b0]) | skip)
          have H' := Aside0.mk H
          clear H
          go_wp2_with (first | ((with_reducible refine gate_callee (f := 67) rfl ?_); refine goesL_ (some 11) rfl rfl Tryd.func67 (by kernel_rfl) rfl #[.slice A0 l0.length c0] rfl (by (try simp only [List.map_toArray, List.map_cons, List.map_nil]); first | done | rfl | (simp only [List.length_drop, List.length_take]; rfl)) ?_; (with_reducible refine (converters__isInf.calls _ _ l0 false _ ?side1 ?side2 A7.out).mono ?_); (case side1 => repeat (first | exact (Kd.C_below HR0.out HB.out) | (with_reducible refine Kd.C_alloc ?_ _) | (with_reducible refine Kd.C_drewN ?_ _) | (with_reducible refine Kd.C_drew ?_))); (case side2 => exact HC0.out); rintro e w' ⟨rfl, ⟨nd, rfl⟩⟩; refine ⟨_, rfl, ?_⟩) | (go_at_call 46; (with_reducible refine (converters_compareBytes.calls _ _ l0 _ _ l1 t169 _ ?side1 ?side2 ?side3 ?side4 A9.out).mono ?_); (case side1 => repeat (first | exact (Kd.C_below HR0.out (by repeat (first | (with_reducible first | exact HB.out | apply below_alloc | apply pw_below_drewN | apply below_drew1) | exact HB.out))) | (with_reducible refine Kd.C_alloc ?_ _) | (with_reducible refine Kd.C_drewN ?_ _) | (with_reducible refine Kd.C_drew ?_))); (case side2 => exact HC0.out); (case side3 => repeat (first | exact (Kd.C_below HR1.out (by repeat (first | (with_reducible first | exact HB.out | apply below_alloc | apply pw_below_drewN | apply below_drew1) | exact HB.out))) | (with_reducible refine Kd.C_alloc ?_ _) | (with_reducible refine Kd.C_drewN ?_ _) | (with_reducible refine Kd.C_drew ?_))); (case side4 => exact HC1.out); rintro e w' ⟨rfl, ⟨nd, rfl⟩⟩))
          go_meet
          case rel => exact ⟨_, (true), (by first | rfl | (simp; done) | (simp [*]; done)), H', ⟨by first | omega | exact Nat.le_refl _⟩, ⟨by repeat (first | (with_reducible first | exact HB.out | apply below_alloc | apply pw_below_drewN | apply below_drew1) | exact HB.out)⟩⟩
        · rw [if_neg c10] at H
          have c10b0 : decide (0 < t169) = false := decide_eq_false c10
          clear c10
          (first | rw [c10b0] | (simp only [i64_w, i32_w]; rw [c10b0]) | skip)
          replace H := Option.bind_eq_some_iff.mp H
          obtain ⟨t170, A110, H⟩ := H
          replace H : (converters_toUInt64Internal.j0 k l0 (decide (t170 < 0))) = some (r1, r2) := H
          have A11 := Aside0.mk A110
          clear A110
          have H' := Aside0.mk H
          clear H
          go_wp2_with (first | ((with_reducible refine gate_callee (f := 67) rfl ?_); refine goesL_ (some 11) rfl rfl Tryd.func67 (by kernel_rfl) rfl #[.slice A0 l0.length c0] rfl (by (try simp only [List.map_toArray, List.map_cons, List.map_nil]); first | done | rfl | (simp only [List.length_drop, List.length_take]; rfl)) ?_; (with_reducible refine (converters__isInf.calls _ _ l0 false _ ?side1 ?side2 A7.out).mono ?_); (case side1 => repeat (first | exact (Kd.C_below HR0.out HB.out) | (with_reducible refine Kd.C_alloc ?_ _) | (with_reducible refine Kd.C_drewN ?_ _) | (with_reducible refine Kd.C_drew ?_))); (case side2 => exact HC0.out); rintro e w' ⟨rfl, ⟨nd, rfl⟩⟩; refine ⟨_, rfl, ?_⟩) | (go_at_call 46; (with_reducible refine (converters_compareBytes.calls _ _ l0 _ _ l1 t169 _ ?side1 ?side2 ?side3 ?side4 A9.out).mono ?_); (case side1 => repeat (first | exact (Kd.C_below HR0.out (by repeat (first | (with_reducible first | exact HB.out | apply below_alloc | apply pw_below_drewN | apply below_drew1) | exact HB.out))) | (with_reducible refine Kd.C_alloc ?_ _) | (with_reducible refine Kd.C_drewN ?_ _) | (with_reducible refine Kd.C_drew ?_))); (case side2 => exact HC0.out); (case side3 => repeat (first | exact (Kd.C_below HR1.out (by repeat (first | (with_reducible first | exact HB.out | apply below_alloc | apply pw_below_drewN | apply below_drew1) | exact HB.out))) | (with_reducible refine Kd.C_alloc ?_ _) | (with_reducible refine Kd.C_drewN ?_ _) | (with_reducible refine Kd.C_drew ?_))); (case side4 => exact HC1.out); rintro e w' ⟨rfl, ⟨nd, rfl⟩⟩) | (go_at_call 46; (with_reducible refine (converters_compareBytes.calls _ _ l0 _ _ l2 t170 _ ?side1 ?side2 ?side3 ?side4 A11.out).mono ?_); (case side1 => repeat (first | exact (Kd.C_below HR0.out (by repeat (first | (with_reducible first | exact HB.out | apply below_alloc | apply pw_below_drewN | apply below_drew1) | exact HB.out))) | (with_reducible refine Kd.C_alloc ?_ _) | (with_reducible refine Kd.C_drewN ?_ _) | (with_reducible refine Kd.C_drew ?_))); (case side2 => exact HC0.out); (case side3 => repeat (first | exact (Kd.C_below HR2.out (by repeat (first | (with_reducible first | exact HB.out | apply below_alloc | apply pw_below_drewN | apply below_drew1) | exact HB.out))) | (with_reducible refine Kd.C_alloc ?_ _) | (with_reducible refine Kd.C_drewN ?_ _) | (with_reducible refine Kd.C_drew ?_))); (case side4 => exact HC2.out); rintro e w' ⟨rfl, ⟨nd, rfl⟩⟩))
          go_meet
          case rel => exact ⟨_, (decide (t170 < 0)), (by first | rfl | (simp; done) | (simp [*]; done)), H', ⟨by first | omega | exact Nat.le_refl _⟩, ⟨by repeat (first | (with_reducible first | exact HB.out | apply below_alloc | apply pw_below_drewN | apply below_drew1) | exact HB.out)⟩⟩
    case rest =>
      clear HC6
      try clear c1
      try clear c2
      try clear p2
      try clear c5
      try clear c6
      try clear c8
      try clear c10
      try clear c10b0
      obtain ⟨kq, x23_5, rfl, HA, HJ5, HB⟩ := hcut
      cases kq with
      | zero => exact absurd HA.out (by simp [converters_toUInt64Internal.j0])
      | succ kj5 =>
        have H := HA.out
        clear HA
        simp only [converters_toUInt64Internal.j0] at H
        by_cases c12 : x23_5 = true
        · subst c12
          have H1 : (none) = some (r1, r2) := by rw [if_pos rfl] at H; exact H
          clear H
          have H := H1
          clear H1
          exact absurd H (by simp)
        · replace c12 := Bool.eq_false_iff.mpr c12
          subst c12
          have H1 : ((converters_toUInt64.f kj5 l0).bind fun bt172 => (some (bt172.1, bt172.2))) = some (r1, r2) := by rw [if_neg (show ¬ (false = true) by decide)] at H; exact H
          clear H
          have H := H1
          clear H1
          replace H := Option.bind_eq_some_iff.mp H
          obtain ⟨⟨t172, t173⟩, A150, H⟩ := H
          replace H : (some (t172, t173)) = some (r1, r2) := H
          have A15 := Aside0.mk A150
          clear A150
          simp only [Option.some.injEq, Prod.mk.injEq] at H
          obtain ⟨rfl, rfl⟩ := H
          go_wp2_with (first | ((with_reducible refine gate_callee (f := 68) rfl ?_); refine goesL_ (some 26) rfl rfl Tryd.func68 (by kernel_rfl) rfl #[.slice A0 l0.length c0] rfl (by (try simp only [List.map_toArray, List.map_cons, List.map_nil]); first | done | rfl | (simp only [List.length_drop, List.length_take]; rfl)) ?_; (with_reducible refine (converters_toUInt64.calls kj5 _ _ l0 t172 t173 _ ?side1 ?side2 A15.out).mono ?_); (case side1 => repeat (first | exact (Kd.C_below HR0.out HB.out) | (with_reducible refine Kd.C_alloc ?_ _) | (with_reducible refine Kd.C_drewN ?_ _) | (with_reducible refine Kd.C_drew ?_))); (case side2 => exact HC0.out); rintro e w16 ⟨rfl, hb⟩; refine ⟨_, rfl, ?_⟩; have n0_ := Aside0.mk (below_step (by repeat (first | (with_reducible first | exact HB.out | apply below_alloc | apply pw_below_drewN | apply below_drew1) | exact HB.out)) hb); clear HB; have HB := n0_; clear n0_; (try clear hb); (try clear hb2); (try clear hk); (try clear hi); (try simp only [errW_none, errW_some])))
          go_ret2
          exact ⟨by first | rfl | (simp [errW_none, errW_some] <;> rfl) | (simp [*, errW_none, errW_some] <;> rfl), by repeat (first | (with_reducible first | exact HB.out | apply below_alloc | apply pw_below_drewN | apply below_drew1) | exact HB.out)⟩

/-! ### converters_Uint64MaxByte: function 57 -/
def converters_Uint64MaxByte.f  : Option (List Int) := some (([202, 19, 45, 68, 45, 8, 38, 10, 56, 17, 16] : List Int))
set_option maxHeartbeats 8000000 in
set_option maxRecDepth 100000 in
theorem converters_Uint64MaxByte.calls  (r : List Int) (w : World) (h : converters_Uint64MaxByte.f  = some r) :
    Calls Tryd.prog 57 #[] w fun e w' => ∃ v0_ : Value, e = .returned (v0_) ∧ Kd.R (Kd.int .u8) 5 w' w.heap.size (fun _ => True) v0_ r ∧ Below w.heap.size w w' := by
  have HB := Aside0.mk (Below.refl w.heap.size w)
  have H : (some (([202, 19, 45, 68, 45, 8, 38, 10, 56, 17, 16] : List Int))) = some r := h
  clear h
  obtain ⟨y174, hy174⟩ : ∃ y_ : List Int, y_ = (([202, 19, 45, 68, 45, 8, 38, 10, 56, 17, 16] : List Int)) := ⟨_, rfl⟩
  replace H : (some y174) = some r := by first | (rw [hy174]; with_reducible exact H) | (have H2_ := (Option.bind_some _ _).symm.trans H; rw [hy174]; with_reducible exact H2_) | (have H2_ := (Option.bind_some _ _).symm.trans H; with_reducible exact H2_) | with_reducible exact H | (rw [hy174]; exact H) | exact H
  have Ny174 := Aside0.mk hy174
  clear hy174
  obtain rfl := Option.some.inj H
  go_enter Tryd.func57, Tryd.ntmps57
  go_wp2_with (first | ((with_reducible refine gate_dst (N := 1) rfl ?_); refine Kd.R_lit (Kd.int .u8) _ 5 ?hg (N := 1) ?hd (xs := ([202, 19, 45, 68, 45, 8, 38, 10, 56, 17, 16] : List Int)) (inner := [.int .u8 202, .int .u8 19, .int .u8 45, .int .u8 68, .int .u8 45, .int .u8 8, .int .u8 38, .int .u8 10, .int .u8 56, .int .u8 17, .int .u8 16]) (ok := fun _ => True) (okp := fun _ => True) ?hr ?hp (fun _ hk => hk) trivial (Below.refl _ _) (Nat.le_refl _) (by simp) ?_; (case hd => rfl); (case hg => rfl); (case hr => first | (go_simp; done) | (go_simp; rfl)); (case hp => exact (Reps.one (show Kd.M (Kd.int .u8) _ _ _ 202 [.int .u8 202] from rfl) (Reps.one (show Kd.M (Kd.int .u8) _ _ _ 19 [.int .u8 19] from rfl) (Reps.one (show Kd.M (Kd.int .u8) _ _ _ 45 [.int .u8 45] from rfl) (Reps.one (show Kd.M (Kd.int .u8) _ _ _ 68 [.int .u8 68] from rfl) (Reps.one (show Kd.M (Kd.int .u8) _ _ _ 45 [.int .u8 45] from rfl) (Reps.one (show Kd.M (Kd.int .u8) _ _ _ 8 [.int .u8 8] from rfl) (Reps.one (show Kd.M (Kd.int .u8) _ _ _ 38 [.int .u8 38] from rfl) (Reps.one (show Kd.M (Kd.int .u8) _ _ _ 10 [.int .u8 10] from rfl) (Reps.one (show Kd.M (Kd.int .u8) _ _ _ 56 [.int .u8 56] from rfl) (Reps.one (show Kd.M (Kd.int .u8) _ _ _ 17 [.int .u8 17] from rfl) (Reps.one (show Kd.M (Kd.int .u8) _ _ _ 16 [.int .u8 16] from rfl) (Reps.none _ _))))))))))))); intro v175 w1 ho2 hb hg_ hnew_; clear hg_ hnew_; (first | rw [← Ny174.out] at ho2 | (simp only [Int.reduceToNat] at ho2; rw [← Ny174.out] at ho2)); have n0_ := Aside0.mk (Kd.R_lower ho2 (below_size (by repeat (first | (with_reducible first | exact HB.out | apply below_alloc | apply pw_below_drewN | apply below_drew1) | exact HB.out)))); have n1_ := Aside0.mk (below_step (by repeat (first | (with_reducible first | exact HB.out | apply below_alloc | apply pw_below_drewN | apply below_drew1) | exact HB.out)) hb); clear HB; have HO176 := n0_; have HB := n1_; clear n0_ n1_; clear hb ho2))
  go_ret
  exact ⟨_, by first | rfl | (simp [errW_none, errW_some] <;> rfl) | (simp [*, errW_none, errW_some] <;> rfl), by (with_reducible repeat (first | apply Kd.R_alloc | apply Kd.R_drewN | apply Kd.R_drew)); exact HO176.out, by repeat (first | (with_reducible first | exact HB.out | apply below_alloc | apply pw_below_drewN | apply below_drew1) | exact HB.out)⟩

/-! ### converters_Uint64MinByte: function 58 -/
def converters_Uint64MinByte.f  : Option (List Int) := some (([128] : List Int))
set_option maxHeartbeats 8000000 in
set_option maxRecDepth 100000 in
theorem converters_Uint64MinByte.calls  (r : List Int) (w : World) (h : converters_Uint64MinByte.f  = some r) :
    Calls Tryd.prog 58 #[] w fun e w' => ∃ v0_ : Value, e = .returned (v0_) ∧ Kd.R (Kd.int .u8) 5 w' w.heap.size (fun _ => True) v0_ r ∧ Below w.heap.size w w' := by
  have HB := Aside0.mk (Below.refl w.heap.size w)
  have H : (some (([128] : List Int))) = some r := h
  clear h
  obtain ⟨y177, hy177⟩ : ∃ y_ : List Int, y_ = (([128] : List Int)) := ⟨_, rfl⟩
  replace H : (some y177) = some r := by first | (rw [hy177]; with_reducible exact H) | (have H2_ := (Option.bind_some _ _).symm.trans H; rw [hy177]; with_reducible exact H2_) | (have H2_ := (Option.bind_some _ _).symm.trans H; with_reducible exact H2_) | with_reducible exact H | (rw [hy177]; exact H) | exact H
  have Ny177 := Aside0.mk hy177
  clear hy177
  obtain rfl := Option.some.inj H
  go_enter Tryd.func58, Tryd.ntmps58
  go_wp2_with (first | ((with_reducible refine gate_dst (N := 1) rfl ?_); refine Kd.R_lit (Kd.int .u8) _ 5 ?hg (N := 1) ?hd (xs := ([128] : List Int)) (inner := [.int .u8 128]) (ok := fun _ => True) (okp := fun _ => True) ?hr ?hp (fun _ hk => hk) trivial (Below.refl _ _) (Nat.le_refl _) (by simp) ?_; (case hd => rfl); (case hg => rfl); (case hr => first | (go_simp; done) | (go_simp; rfl)); (case hp => exact (Reps.one (show Kd.M (Kd.int .u8) _ _ _ 128 [.int .u8 128] from rfl) (Reps.none _ _))); intro v178 w1 ho2 hb hg_ hnew_; clear hg_ hnew_; (first | rw [← Ny177.out] at ho2 | (simp only [Int.reduceToNat] at ho2; rw [← Ny177.out] at ho2)); have n0_ := Aside0.mk (Kd.R_lower ho2 (below_size (by repeat (first | (with_reducible first | exact HB.out | apply below_alloc | apply pw_below_drewN | apply below_drew1) | exact HB.out)))); have n1_ := Aside0.mk (below_step (by repeat (first | (with_reducible first | exact HB.out | apply below_alloc | apply pw_below_drewN | apply below_drew1) | exact HB.out)) hb); clear HB; have HO179 := n0_; have HB := n1_; clear n0_ n1_; clear hb ho2))
  go_ret
  exact ⟨_, by first | rfl | (simp [errW_none, errW_some] <;> rfl) | (simp [*, errW_none, errW_some] <;> rfl), by (with_reducible repeat (first | apply Kd.R_alloc | apply Kd.R_drewN | apply Kd.R_drew)); exact HO179.out, by repeat (first | (with_reducible first | exact HB.out | apply below_alloc | apply pw_below_drewN | apply below_drew1) | exact HB.out)⟩

/-! ### converters_NumberToUInt64: function 48 -/
def converters_NumberToUInt64.f (k : Nat) (l0 : List Int) : Option (Int × Option Int) := (converters_Uint64MaxByte.f).bind fun t180 => ((converters_Uint64MinByte.f).bind fun t183 => ((converters_toUInt64Internal.f k l0 t180 t183).bind fun bt186 => (some (bt186.1, bt186.2))))
theorem converters_NumberToUInt64.mono : ∀ a0 k, LeO (converters_NumberToUInt64.f k a0) (converters_NumberToUInt64.f (k + 1) a0) := by
  intro a0 k
  unfold converters_NumberToUInt64.f
  repeat' first
      | (with_reducible exact converters_toUInt64Internal.mono _ _ _ _)
      | (with_reducible exact LeO.refl _)
      | (with_reducible exact LeO.none _)
      | (with_reducible refine LeO.ite ?_ ?_)
      | (with_reducible refine LeO.bind ?_ (fun _ => ?_))
      | exact converters_toUInt64Internal.mono _ _ _ _
      | exact LeO.none _
      | refine LeO.ite ?_ ?_
      | refine LeO.bind ?_ (fun _ => ?_)
set_option maxHeartbeats 8000000 in
set_option maxRecDepth 100000 in
theorem converters_NumberToUInt64.calls (k : Nat) (A0 : Option Addr) (c0 : Nat) (l0 : List Int) (r1 : Int) (r2 : Option Int) (w : World) (hr0 : Kd.C (Kd.int .u8) w A0 l0.length l0) (hc0 : l0.length ≤ c0) (h : converters_NumberToUInt64.f k l0 = some (r1, r2)) :
    Calls Tryd.prog 48 #[.slice A0 l0.length c0] w fun e w' => e = .returned (.tuple #[.int .u64 r1, errW r2]) ∧ Below w.heap.size w w' := by
  have HR0 := Aside0.mk hr0
  have HC0 := Aside0.mk hc0
  clear hr0 hc0
  have HB := Aside0.mk (Below.refl w.heap.size w)
  have H : ((converters_Uint64MaxByte.f).bind fun t180 => ((converters_Uint64MinByte.f).bind fun t183 => ((converters_toUInt64Internal.f k l0 t180 t183).bind fun bt186 => (some (bt186.1, bt186.2))))) = some (r1, r2) := h
  clear h
  replace H := Option.bind_eq_some_iff.mp H
  obtain ⟨t180, A20, H⟩ := H
  replace H : ((converters_Uint64MinByte.f).bind fun t183 => ((converters_toUInt64Internal.f k l0 t180 t183).bind fun bt186 => (some (bt186.1, bt186.2)))) = some (r1, r2) := H
  have A2 := Aside0.mk A20
  clear A20
  replace H := Option.bind_eq_some_iff.mp H
  obtain ⟨t183, A30, H⟩ := H
  replace H : ((converters_toUInt64Internal.f k l0 t180 t183).bind fun bt186 => (some (bt186.1, bt186.2))) = some (r1, r2) := H
  have A3 := Aside0.mk A30
  clear A30
  replace H := Option.bind_eq_some_iff.mp H
  obtain ⟨⟨t186, t187⟩, A40, H⟩ := H
  replace H : (some (t186, t187)) = some (r1, r2) := H
  have A4 := Aside0.mk A40
  clear A40
  simp only [Option.some.injEq, Prod.mk.injEq] at H
  obtain ⟨rfl, rfl⟩ := H
  go_enter Tryd.func48, Tryd.ntmps48
  go_wp2_with (first | ((with_reducible refine gate_callee (f := 57) rfl ?_); refine goesL_ (some 5) rfl rfl Tryd.func57 (by kernel_rfl) rfl #[] rfl (by (try simp only [List.map_toArray, List.map_cons, List.map_nil]); first | done | rfl | (simp only [List.length_drop, List.length_take]; rfl)) ?_; (with_reducible refine (converters_Uint64MaxByte.calls  t180 _ A2.out).mono ?_); rintro e w5 ⟨v181, rfl, ho0, hb⟩; refine ⟨_, rfl, ?_⟩; have n0_ := Aside0.mk (Kd.R_lower ho0 (below_size (by repeat (first | (with_reducible first | exact HB.out | apply below_alloc | apply pw_below_drewN | apply below_drew1) | exact HB.out)))); have n1_ := Aside0.mk (below_step (by repeat (first | (with_reducible first | exact HB.out | apply below_alloc | apply pw_below_drewN | apply below_drew1) | exact HB.out)) hb); clear HB; have HO182 := n0_; have HB := n1_; clear n0_ n1_; (try clear hb); (try clear hb2); (try clear hk); (try clear hi); (try clear ho0)) | ((with_reducible refine gate_callee (f := 58) rfl ?_); refine goesL_ (some 6) rfl rfl Tryd.func58 (by kernel_rfl) rfl #[] rfl (by (try simp only [List.map_toArray, List.map_cons, List.map_nil]); first | done | rfl | (simp only [List.length_drop, List.length_take]; rfl)) ?_; (with_reducible refine (converters_Uint64MinByte.calls  t183 _ A3.out).mono ?_); rintro e w6 ⟨v184, rfl, ho0, hb⟩; refine ⟨_, rfl, ?_⟩; have n0_ := Aside0.mk (Kd.R_elder' (by (with_reducible repeat (first | apply Kd.R_alloc | apply Kd.R_drewN | apply Kd.R_drew)); exact HO182.out) (Kd.R_base ho0) hb); have n1_ := Aside0.mk (Kd.R_lower (Kd.R_new' ho0 (Kd.R_lt (by (with_reducible repeat (first | apply Kd.R_alloc | apply Kd.R_drewN | apply Kd.R_drew)); exact HO182.out))) (below_size (by repeat (first | (with_reducible first | exact HB.out | apply below_alloc | apply pw_below_drewN | apply below_drew1) | exact HB.out)))); have n2_ := Aside0.mk (below_step (by repeat (first | (with_reducible first | exact HB.out | apply below_alloc | apply pw_below_drewN | apply below_drew1) | exact HB.out)) hb); clear HO182; clear HB; have HO182 := n0_; have HO185 := n1_; have HB := n2_; clear n0_ n1_ n2_; (try clear hb); (try clear hb2); (try clear hk); (try clear hi); (try clear ho0); obtain ⟨Ao7, co7, eo7⟩ := Kd.R_slice HO182.out; subst eo7; obtain ⟨Ao8, co8, eo8⟩ := Kd.R_slice HO185.out; subst eo8) | ((with_reducible refine gate_callee (f := 56) rfl ?_); refine goesL_ (some 7) rfl rfl Tryd.func56 (by kernel_rfl) rfl #[.slice A0 l0.length c0, .slice Ao7 t180.length co7, .slice Ao8 t183.length co8] rfl (by (try simp only [List.map_toArray, List.map_cons, List.map_nil]); first | done | rfl | (simp only [List.length_drop, List.length_take]; rfl)) ?_; (with_reducible refine (converters_toUInt64Internal.calls k _ _ l0 _ _ t180 _ _ t183 t186 t187 _ ?side1 ?side2 ?side3 ?side4 ?side5 ?side6 A4.out).mono ?_); (case side1 => repeat (first | exact (Kd.C_below HR0.out HB.out) | (with_reducible refine Kd.C_alloc ?_ _) | (with_reducible refine Kd.C_drewN ?_ _) | (with_reducible refine Kd.C_drew ?_))); (case side2 => exact HC0.out); (case side3 => repeat (first | exact (Kd.R_reads' HO182.out).2.2 | (with_reducible refine Kd.C_alloc ?_ _) | (with_reducible refine Kd.C_drewN ?_ _) | (with_reducible refine Kd.C_drew ?_))); (case side4 => exact (Kd.R_reads' HO182.out).2.1); (case side5 => repeat (first | exact (Kd.R_reads' HO185.out).2.2 | (with_reducible refine Kd.C_alloc ?_ _) | (with_reducible refine Kd.C_drewN ?_ _) | (with_reducible refine Kd.C_drew ?_))); (case side6 => exact (Kd.R_reads' HO185.out).2.1); rintro e w9 ⟨rfl, hb⟩; refine ⟨_, rfl, ?_⟩; have n0_ := Aside0.mk (Kd.R_below (by (with_reducible repeat (first | apply Kd.R_alloc | apply Kd.R_drewN | apply Kd.R_drew)); exact HO182.out) hb); have n1_ := Aside0.mk (Kd.R_below (by (with_reducible repeat (first | apply Kd.R_alloc | apply Kd.R_drewN | apply Kd.R_drew)); exact HO185.out) hb); have n2_ := Aside0.mk (below_step (by repeat (first | (with_reducible first | exact HB.out | apply below_alloc | apply pw_below_drewN | apply below_drew1) | exact HB.out)) hb); clear HO182; clear HO185; clear HB; have HO182 := n0_; have HO185 := n1_; have HB := n2_; clear n0_ n1_ n2_; (try clear hb); (try clear hb2); (try clear hk); (try clear hi); (try simp only [errW_none, errW_some])))
  go_ret2
  exact ⟨by first | rfl | (simp [errW_none, errW_some] <;> rfl) | (simp [*, errW_none, errW_some] <;> rfl), by repeat (first | (with_reducible first | exact HB.out | apply below_alloc | apply pw_below_drewN | apply below_drew1) | exact HB.out)⟩

-- NOT PRINTED: function 40 (converters_Number_UInt64)

-- NOT PRINTED: function 29 (impl_NumberUint64)

end Go.Proofs.YtepooaejlofkkaaDoor.ZU
