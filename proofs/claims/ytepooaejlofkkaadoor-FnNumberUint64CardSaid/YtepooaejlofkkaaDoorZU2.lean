-- Written by a program of this session (wip/xprint.py), which calls the kit's print.
import Derived.Test.YtepooaejlofkkaaDoorZU0
import Derived.Test.YtepooaejlofkkaaDoorNum
import Derived.Test.YtepooaejlofkkaaDoorCb
import Derived.Test.YtepooaejlofkkaaDoorEu
namespace Go.Proofs.YtepooaejlofkkaaDoor.ZU
open Go.RowKit Go.Proofs.YtepooaejlofkkaaDoor.X Go.Proofs.YtepooaejlofkkaaDoorW.PrintWords Go.Proofs.YtepooaejlofkkaaDoorW.PrintLast Go.Proofs.YtepooaejlofkkaaDoorW.PrintMore
attribute [local go_sem] max2_int min2_int max_two min_two max_three min_three max_four min_four   -- for this text's walks alone
set_option linter.unusedVariables false
set_option linter.unusedSimpArgs false

/-! ### converters_FromNumber: function 35 -/
mutual
def converters_FromNumber.j0 : Nat → List Int → Int → Bool → Int → Option (Int × Bool × Int × Int × Option Int)
  | 0, _, _, _, _ => none
  | k + 1, x0, x2, x3, x4 => if 1 ≤ (x0.length : Int) then ((some (x0.drop 1 : List Int)).bind fun y109 => (if x3 = true then (if 0 ≤ (wrap64 ((x0.length : Int) - 1)) then (if (wrap64 ((x0.length : Int) - 1)) < (x0.length : Int) then (converters_FromNumber.j1 k x0 x2 x3 x4 y109 ((rd x0 (wrap64 ((x0.length : Int) - 1))) == 102)) else (none)) else (none)) else (converters_FromNumber.j1 k x0 x2 x3 x4 y109 false))) else (none)
def converters_FromNumber.j1 : Nat → List Int → Int → Bool → Int → List Int → Bool → Option (Int × Bool × Int × Int × Option Int)
  | 0, _, _, _, _, _, _ => none
  | k + 1, x0, x2, x3, x4, x7, x49 => if x49 = true then (if 1 ≤ (wrap64 ((x0.length : Int) - 1)) then (if (wrap64 ((x0.length : Int) - 1)) ≤ (x0.length : Int) then (converters_FromNumber.j2 k x2 x3 x4 ((x0.take ((wrap64 ((x0.length : Int) - 1)) : Int).toNat).drop 1)) else (none)) else (none)) else (converters_FromNumber.j2 k x2 x3 x4 x7)
def converters_FromNumber.j2 : Nat → Int → Bool → Int → List Int → Option (Int × Bool × Int × Int × Option Int)
  | 0, _, _, _, _ => none
  | k + 1, x2, x3, x4, x7 => converters_FromNumber.l0 k x2 x3 x4 0 0 x7 (x7.length : Int) 0
def converters_FromNumber.l0 : Nat → Int → Bool → Int → Int → Int → List Int → Int → Int → Option (Int × Bool × Int × Int × Option Int)
  | 0, _, _, _, _, _, _, _, _ => none
  | k + 1, x2, x3, x4, x5, x9, x55, x56, x57 => if x57 < x56 then (if 0 ≤ x57 then (if x57 < (x55.length : Int) then (if x57 = 0 then (converters_FromNumber.j4 k x2 x3 x4 x5 (-1) (rd x55 x57) x55 x56 x57) else (converters_FromNumber.j4 k x2 x3 x4 x5 x9 (rd x55 x57) x55 x56 x57)) else (none)) else (none)) else (some (x2, x3, wrap64 ((wrap64 (x4 * 2)) - x5), wrap64 (x5 + x9), none))
def converters_FromNumber.j4 : Nat → Int → Bool → Int → Int → Int → Int → List Int → Int → Int → Option (Int × Bool × Int × Int × Option Int)
  | 0, _, _, _, _, _, _, _, _, _ => none
  | k + 1, x2, x3, x4, x5, x9, x11, x55, x56, x57 => if x3 = true then (converters_FromNumber.j5 k x2 x3 x4 x5 x9 ((100 - ((x11 - 1) % 256)) % 256) x55 x56 x57) else (converters_FromNumber.j5 k x2 x3 x4 x5 x9 ((x11 - 1) % 256) x55 x56 x57)
def converters_FromNumber.j5 : Nat → Int → Bool → Int → Int → Int → Int → List Int → Int → Int → Option (Int × Bool × Int × Int × Option Int)
  | 0, _, _, _, _, _, _, _, _, _ => none
  | k + 1, x2, x3, x4, x5, x9, x11, x55, x56, x57 => (converters_addDigitToMantissa.f x2 ((Int.tdiv x11 10) % 256)).bind fun bt121 => (if bt121.2 = true then (some (bt121.1, x3, wrap64 ((wrap64 (x4 * 2)) - x5), wrap64 (x5 + x9), none)) else ((converters_addDigitToMantissa.f bt121.1 (Int.tmod x11 10)).bind fun bt123 => (if bt123.2 = true then (some (bt123.1, x3, wrap64 ((wrap64 (x4 * 2)) - (wrap64 (x5 + 1))), wrap64 ((wrap64 (x5 + 1)) + x9), none)) else (converters_FromNumber.l0 k bt123.1 x3 x4 (wrap64 ((wrap64 (x5 + 1)) + 1)) x9 x55 x56 (wrap64 (x57 + 1))))))
end
def converters_FromNumber.f (k : Nat) (l0 : List Int) : Option (Int × Bool × Int × Int × Option Int) := if (l0.length : Int) = 0 then (none) else (if 0 < (l0.length : Int) then (if (rd l0 0) = 128 then (some (0, false, 0, 0, none)) else (if (Go.bits .and .u8 (rd l0 0) 128) = 0 then (converters_FromNumber.j0 k l0 0 ((Go.bits .and .u8 (rd l0 0) 128) == 0) (wrap64 ((wrap64 (Go.bits .xor .u8 (rd l0 0) 127)) - 64))) else (converters_FromNumber.j0 k l0 0 ((Go.bits .and .u8 (rd l0 0) 128) == 0) (wrap64 ((wrap64 (Go.bits .and .u8 (rd l0 0) 127)) - 64))))) else (none))
theorem converters_FromNumber.mono_l : ∀ k, (∀ y0 y1 y2 y3, LeO (converters_FromNumber.j0 k y0 y1 y2 y3) (converters_FromNumber.j0 (k + 1) y0 y1 y2 y3)) ∧ (∀ y0 y1 y2 y3 y4 y5, LeO (converters_FromNumber.j1 k y0 y1 y2 y3 y4 y5) (converters_FromNumber.j1 (k + 1) y0 y1 y2 y3 y4 y5)) ∧ (∀ y0 y1 y2 y3, LeO (converters_FromNumber.j2 k y0 y1 y2 y3) (converters_FromNumber.j2 (k + 1) y0 y1 y2 y3)) ∧ (∀ y0 y1 y2 y3 y4 y5 y6 y7, LeO (converters_FromNumber.l0 k y0 y1 y2 y3 y4 y5 y6 y7) (converters_FromNumber.l0 (k + 1) y0 y1 y2 y3 y4 y5 y6 y7)) ∧ (∀ y0 y1 y2 y3 y4 y5 y6 y7 y8, LeO (converters_FromNumber.j4 k y0 y1 y2 y3 y4 y5 y6 y7 y8) (converters_FromNumber.j4 (k + 1) y0 y1 y2 y3 y4 y5 y6 y7 y8)) ∧ (∀ y0 y1 y2 y3 y4 y5 y6 y7 y8, LeO (converters_FromNumber.j5 k y0 y1 y2 y3 y4 y5 y6 y7 y8) (converters_FromNumber.j5 (k + 1) y0 y1 y2 y3 y4 y5 y6 y7 y8))
  | 0 => ⟨fun _ _ _ _ r h => by simp [converters_FromNumber.j0] at h, fun _ _ _ _ _ _ r h => by simp [converters_FromNumber.j1] at h, fun _ _ _ _ r h => by simp [converters_FromNumber.j2] at h, fun _ _ _ _ _ _ _ _ r h => by simp [converters_FromNumber.l0] at h, fun _ _ _ _ _ _ _ _ _ r h => by simp [converters_FromNumber.j4] at h, fun _ _ _ _ _ _ _ _ _ r h => by simp [converters_FromNumber.j5] at h⟩
  | k + 1 => by
    obtain ⟨ih0, ih1, ih2, ih3, ih4, ih5⟩ := converters_FromNumber.mono_l k
    refine ⟨?_, ?_, ?_, ?_, ?_, ?_⟩
    · intro y0 y1 y2 y3
      unfold converters_FromNumber.j0
      repeat' first
      | (with_reducible exact ih0 _ _ _ _)
      | (with_reducible exact ih1 _ _ _ _ _ _)
      | (with_reducible exact ih2 _ _ _ _)
      | (with_reducible exact ih3 _ _ _ _ _ _ _ _)
      | (with_reducible exact ih4 _ _ _ _ _ _ _ _ _)
      | (with_reducible exact ih5 _ _ _ _ _ _ _ _ _)
      | (with_reducible exact LeO.refl _)
      | (with_reducible exact LeO.none _)
      | (with_reducible refine LeO.ite ?_ ?_)
      | (with_reducible refine LeO.bind ?_ (fun _ => ?_))
      | exact ih0 _ _ _ _
      | exact ih1 _ _ _ _ _ _
      | exact ih2 _ _ _ _
      | exact ih3 _ _ _ _ _ _ _ _
      | exact ih4 _ _ _ _ _ _ _ _ _
      | exact ih5 _ _ _ _ _ _ _ _ _
      | exact LeO.none _
      | refine LeO.ite ?_ ?_
      | refine LeO.bind ?_ (fun _ => ?_)
    · intro y0 y1 y2 y3 y4 y5
      unfold converters_FromNumber.j1
      repeat' first
      | (with_reducible exact ih0 _ _ _ _)
      | (with_reducible exact ih1 _ _ _ _ _ _)
      | (with_reducible exact ih2 _ _ _ _)
      | (with_reducible exact ih3 _ _ _ _ _ _ _ _)
      | (with_reducible exact ih4 _ _ _ _ _ _ _ _ _)
      | (with_reducible exact ih5 _ _ _ _ _ _ _ _ _)
      | (with_reducible exact LeO.refl _)
      | (with_reducible exact LeO.none _)
      | (with_reducible refine LeO.ite ?_ ?_)
      | (with_reducible refine LeO.bind ?_ (fun _ => ?_))
      | exact ih0 _ _ _ _
      | exact ih1 _ _ _ _ _ _
      | exact ih2 _ _ _ _
      | exact ih3 _ _ _ _ _ _ _ _
      | exact ih4 _ _ _ _ _ _ _ _ _
      | exact ih5 _ _ _ _ _ _ _ _ _
      | exact LeO.none _
      | refine LeO.ite ?_ ?_
      | refine LeO.bind ?_ (fun _ => ?_)
    · intro y0 y1 y2 y3
      unfold converters_FromNumber.j2
      repeat' first
      | (with_reducible exact ih0 _ _ _ _)
      | (with_reducible exact ih1 _ _ _ _ _ _)
      | (with_reducible exact ih2 _ _ _ _)
      | (with_reducible exact ih3 _ _ _ _ _ _ _ _)
      | (with_reducible exact ih4 _ _ _ _ _ _ _ _ _)
      | (with_reducible exact ih5 _ _ _ _ _ _ _ _ _)
      | (with_reducible exact LeO.refl _)
      | (with_reducible exact LeO.none _)
      | (with_reducible refine LeO.ite ?_ ?_)
      | (with_reducible refine LeO.bind ?_ (fun _ => ?_))
      | exact ih0 _ _ _ _
      | exact ih1 _ _ _ _ _ _
      | exact ih2 _ _ _ _
      | exact ih3 _ _ _ _ _ _ _ _
      | exact ih4 _ _ _ _ _ _ _ _ _
      | exact ih5 _ _ _ _ _ _ _ _ _
      | exact LeO.none _
      | refine LeO.ite ?_ ?_
      | refine LeO.bind ?_ (fun _ => ?_)
    · intro y0 y1 y2 y3 y4 y5 y6 y7
      unfold converters_FromNumber.l0
      repeat' first
      | (with_reducible exact ih0 _ _ _ _)
      | (with_reducible exact ih1 _ _ _ _ _ _)
      | (with_reducible exact ih2 _ _ _ _)
      | (with_reducible exact ih3 _ _ _ _ _ _ _ _)
      | (with_reducible exact ih4 _ _ _ _ _ _ _ _ _)
      | (with_reducible exact ih5 _ _ _ _ _ _ _ _ _)
      | (with_reducible exact LeO.refl _)
      | (with_reducible exact LeO.none _)
      | (with_reducible refine LeO.ite ?_ ?_)
      | (with_reducible refine LeO.bind ?_ (fun _ => ?_))
      | exact ih0 _ _ _ _
      | exact ih1 _ _ _ _ _ _
      | exact ih2 _ _ _ _
      | exact ih3 _ _ _ _ _ _ _ _
      | exact ih4 _ _ _ _ _ _ _ _ _
      | exact ih5 _ _ _ _ _ _ _ _ _
      | exact LeO.none _
      | refine LeO.ite ?_ ?_
      | refine LeO.bind ?_ (fun _ => ?_)
    · intro y0 y1 y2 y3 y4 y5 y6 y7 y8
      unfold converters_FromNumber.j4
      repeat' first
      | (with_reducible exact ih0 _ _ _ _)
      | (with_reducible exact ih1 _ _ _ _ _ _)
      | (with_reducible exact ih2 _ _ _ _)
      | (with_reducible exact ih3 _ _ _ _ _ _ _ _)
      | (with_reducible exact ih4 _ _ _ _ _ _ _ _ _)
      | (with_reducible exact ih5 _ _ _ _ _ _ _ _ _)
      | (with_reducible exact LeO.refl _)
      | (with_reducible exact LeO.none _)
      | (with_reducible refine LeO.ite ?_ ?_)
      | (with_reducible refine LeO.bind ?_ (fun _ => ?_))
      | exact ih0 _ _ _ _
      | exact ih1 _ _ _ _ _ _
      | exact ih2 _ _ _ _
      | exact ih3 _ _ _ _ _ _ _ _
      | exact ih4 _ _ _ _ _ _ _ _ _
      | exact ih5 _ _ _ _ _ _ _ _ _
      | exact LeO.none _
      | refine LeO.ite ?_ ?_
      | refine LeO.bind ?_ (fun _ => ?_)
    · intro y0 y1 y2 y3 y4 y5 y6 y7 y8
      unfold converters_FromNumber.j5
      repeat' first
      | (with_reducible exact ih0 _ _ _ _)
      | (with_reducible exact ih1 _ _ _ _ _ _)
      | (with_reducible exact ih2 _ _ _ _)
      | (with_reducible exact ih3 _ _ _ _ _ _ _ _)
      | (with_reducible exact ih4 _ _ _ _ _ _ _ _ _)
      | (with_reducible exact ih5 _ _ _ _ _ _ _ _ _)
      | (with_reducible exact LeO.refl _)
      | (with_reducible exact LeO.none _)
      | (with_reducible refine LeO.ite ?_ ?_)
      | (with_reducible refine LeO.bind ?_ (fun _ => ?_))
      | exact ih0 _ _ _ _
      | exact ih1 _ _ _ _ _ _
      | exact ih2 _ _ _ _
      | exact ih3 _ _ _ _ _ _ _ _
      | exact ih4 _ _ _ _ _ _ _ _ _
      | exact ih5 _ _ _ _ _ _ _ _ _
      | exact LeO.none _
      | refine LeO.ite ?_ ?_
      | refine LeO.bind ?_ (fun _ => ?_)
theorem converters_FromNumber.mono : ∀ a0 k, LeO (converters_FromNumber.f k a0) (converters_FromNumber.f (k + 1) a0) := by
  intro a0 k
  obtain ⟨ih0, ih1, ih2, ih3, ih4, ih5⟩ := converters_FromNumber.mono_l k
  unfold converters_FromNumber.f
  repeat' first
      | (with_reducible exact ih0 _ _ _ _)
      | (with_reducible exact ih1 _ _ _ _ _ _)
      | (with_reducible exact ih2 _ _ _ _)
      | (with_reducible exact ih3 _ _ _ _ _ _ _ _)
      | (with_reducible exact ih4 _ _ _ _ _ _ _ _ _)
      | (with_reducible exact ih5 _ _ _ _ _ _ _ _ _)
      | (with_reducible exact LeO.refl _)
      | (with_reducible exact LeO.none _)
      | (with_reducible refine LeO.ite ?_ ?_)
      | (with_reducible refine LeO.bind ?_ (fun _ => ?_))
      | exact ih0 _ _ _ _
      | exact ih1 _ _ _ _ _ _
      | exact ih2 _ _ _ _
      | exact ih3 _ _ _ _ _ _ _ _
      | exact ih4 _ _ _ _ _ _ _ _ _
      | exact ih5 _ _ _ _ _ _ _ _ _
      | exact LeO.none _
      | refine LeO.ite ?_ ?_
      | refine LeO.bind ?_ (fun _ => ?_)
set_option maxHeartbeats 8000000 in
set_option maxRecDepth 100000 in
theorem converters_FromNumber.calls (k : Nat) (P0_ : Nat → Prop) (A0 : Option Addr) (c0 : Nat) (l0 : List Int) (r1 : Int) (r2 : Bool) (r3 : Int) (r4 : Int) (r5 : Option Int) (w : World) (hs0 : Kd.V (Kd.int .u8) 5 w w.heap.size (fun k_ => P0_ k_) (.slice A0 l0.length c0) l0) (h : converters_FromNumber.f k l0 = some (r1, r2, r3, r4, r5)) :
    Calls Tryd.prog 35 #[.slice A0 l0.length c0] w fun e w' => e = .returned (.tuple #[.int .u64 r1, .bool r2, .int .i64 r3, .int .i64 r4, errW r5]) ∧ Below w.heap.size w w' := by
  have HO0 := Aside0.mk (show Kd.V (Kd.int .u8) 5 w w.heap.size (fun k_ => (P0_ k_ ∨ w.heap.size ≤ k_)) (.slice A0 l0.length c0) l0 from Kd.V_mono hs0 (fun k_ hk => .inl hk))
  have HB := Aside0.mk (Below.refl w.heap.size w)
  have H : (if (l0.length : Int) = 0 then (none) else (if 0 < (l0.length : Int) then (if (rd l0 0) = 128 then (some (0, false, 0, 0, none)) else (if (Go.bits .and .u8 (rd l0 0) 128) = 0 then (converters_FromNumber.j0 k l0 0 ((Go.bits .and .u8 (rd l0 0) 128) == 0) (wrap64 ((wrap64 (Go.bits .xor .u8 (rd l0 0) 127)) - 64))) else (converters_FromNumber.j0 k l0 0 ((Go.bits .and .u8 (rd l0 0) 128) == 0) (wrap64 ((wrap64 (Go.bits .and .u8 (rd l0 0) 127)) - 64))))) else (none))) = some (r1, r2, r3, r4, r5) := h
  clear h
  by_cases c2 : (l0.length : Int) = 0
  · rw [if_pos c2] at H
    exact absurd H (by simp)
  · rw [if_neg c2] at H
    have c2b0 : ((l0.length : Int) == 0) = false := beq_eq_false_iff_ne.mpr c2
    have c2b1 : ((l0.length : Int) != 0) = true := bne_iff_ne.mpr c2
    have c2b2 : ¬ (l0 = []) := fun h_ => c2 (by rw [h_]; rfl)
    by_cases c5 : 0 < (l0.length : Int)
    · rw [if_pos c5] at H
      have c5b0 : decide (0 < (l0.length : Int)) = true := decide_eq_true c5
      have c5b1 : decide (0 < l0.length) = true := decide_eq_true (by omega)
      clear c5
      by_cases c6 : (rd l0 0) = 128
      · rw [if_pos c6] at H
        have c6b0 : ((rd l0 0) == 128) = true := beq_iff_eq.mpr c6
        have c6b1 : ((rd l0 0) != 128) = false := bne_eq_false_iff_eq.mpr c6
        clear c6
        simp only [Option.some.injEq, Prod.mk.injEq] at H
        obtain ⟨rfl, rfl, rfl, rfl, rfl⟩ := H
        have p105 : 0 ≤ (0 : Int) := (by omega)
        have q105 : 0 < (l0.length : Int) := of_decide_eq_true (by first | (with_reducible assumption) | assumption)
        obtain ⟨ad105, e105, hx105_0⟩ := Kd.at_int (Kd.V_reads' HO0.out).2.2 0 p105 q105
        cases e105
        have qi105 : (0 < l0.length) = True := eq_true (by omega)
        (try rw [show ((0 : Int)).toNat = 0 from rfl] at hx105_0)
        (try rw [Addr.add_zero'] at hx105_0)
        replace p105 := eq_true p105
        replace q105 := eq_true q105
        go_enter Tryd.func35, Tryd.ntmps35
        go_wp2
        refine bodyPost_ret (results_list (rs := [.tmp 2, .tmp 3, .tmp 4, .tmp 5, .tmp 6]) rfl (by simp) (.tmp (.tmp (.tmp (.tmp (.tmp .nil)))))) rfl ?_
        exact ⟨by first | rfl | (simp [errW_none, errW_some] <;> rfl) | (simp [*, errW_none, errW_some] <;> rfl), by repeat (first | (with_reducible first | exact HB.out | apply below_alloc | apply pw_below_drewN | apply below_drew1) | exact HB.out)⟩
      · rw [if_neg c6] at H
        have c6b0 : ((rd l0 0) == 128) = false := beq_eq_false_iff_ne.mpr c6
        have c6b1 : ((rd l0 0) != 128) = true := bne_iff_ne.mpr c6
        have HC7 := Aside0.mk H
        clear H
        have p105 : 0 ≤ (0 : Int) := (by omega)
        have q105 : 0 < (l0.length : Int) := of_decide_eq_true (by first | (with_reducible assumption) | assumption)
        obtain ⟨ad105, e105, hx105_0⟩ := Kd.at_int (Kd.V_reads' HO0.out).2.2 0 p105 q105
        cases e105
        have qi105 : (0 < l0.length) = True := eq_true (by omega)
        (try rw [show ((0 : Int)).toNat = 0 from rfl] at hx105_0)
        (try rw [Addr.add_zero'] at hx105_0)
        replace p105 := eq_true p105
        replace q105 := eq_true q105
        have p106 : 0 ≤ (0 : Int) := (by omega)
        have q106 : 0 < (l0.length : Int) := of_decide_eq_true (by first | (with_reducible assumption) | assumption)
        obtain ⟨ad106, e106, hx106_0⟩ := Kd.at_int (Kd.V_reads' HO0.out).2.2 0 p106 q106
        obtain rfl : ad105 = ad106 := (by injection e106)
        have qi106 : (0 < l0.length) = True := eq_true (by omega)
        (try rw [show ((0 : Int)).toNat = 0 from rfl] at hx106_0)
        (try rw [Addr.add_zero'] at hx106_0)
        replace p106 := eq_true p106
        replace q106 := eq_true q106
        go_enter Tryd.func35, Tryd.ntmps35
        go_upto_if 25 with (fail)
        go_cut [3, 4] (fun v3 v4 wc => ∃ (kq : Nat) (x4_6 : Int), v3 = .bool ((Go.bits .and .u8 (rd l0 0) 128) == 0) ∧ v4 = .int .i64 x4_6 ∧ Aside0 (converters_FromNumber.j0 kq l0 0 ((Go.bits .and .u8 (rd l0 0) 128) == 0) x4_6 = some (r1, r2, r3, r4, r5)) ∧ Aside0 (kq ≤ k) ∧ Aside0 (Kd.V (Kd.int .u8) 5 wc w.heap.size (fun k_ => (P0_ k_ ∨ w.heap.size ≤ k_)) (.slice (some ad105) l0.length c0) l0) ∧ Aside0 (Below w.heap.size w wc))
        case first =>
          have H := HC7.out
          clear HC7
          by_cases c8 : (Go.bits .and .u8 (rd l0 0) 128) = 0
          · rw [if_pos c8] at H
            have c8b0 : ((Go.bits .and .u8 (rd l0 0) 128) == 0) = true := beq_iff_eq.mpr c8
            have c8b1 : ((Go.bits .and .u8 (rd l0 0) 128) != 0) = false := bne_eq_false_iff_eq.mpr c8
            clear c8
            (first | rw [c8b0] | (simp only [i64_w, i32_w]; rw [c8b0]) | skip)
            have H' := Aside0.mk H
            clear H
            have p107 : 0 ≤ (0 : Int) := (by omega)
            have q107 : 0 < (l0.length : Int) := of_decide_eq_true (by first | (with_reducible assumption) | assumption)
            obtain ⟨ad107, e107, hx107_0⟩ := Kd.at_int (Kd.V_reads' HO0.out).2.2 0 p107 q107
            obtain rfl : ad105 = ad107 := (by injection e107)
            have qi107 : (0 < l0.length) = True := eq_true (by omega)
            (try rw [show ((0 : Int)).toNat = 0 from rfl] at hx107_0)
            (try rw [Addr.add_zero'] at hx107_0)
            replace p107 := eq_true p107
            replace q107 := eq_true q107
            go_wp2
            go_meet
            case rel => exact ⟨_, (wrap64 ((wrap64 (Go.bits .xor .u8 (rd l0 0) 127)) - 64)), (by first | rfl | (simp; done) | (simp [*]; done)), (by first | rfl | (simp; done) | (simp [*]; done)), H', ⟨by first | omega | exact Nat.le_refl _⟩, ⟨by (with_reducible repeat (first | apply Kd.V_alloc | apply Kd.V_drewN | apply Kd.V_drew)); exact HO0.out⟩, ⟨by repeat (first | (with_reducible first | exact HB.out | apply below_alloc | apply pw_below_drewN | apply below_drew1) | exact HB.out)⟩⟩
          · rw [if_neg c8] at H
            have c8b0 : ((Go.bits .and .u8 (rd l0 0) 128) == 0) = false := beq_eq_false_iff_ne.mpr c8
            have c8b1 : ((Go.bits .and .u8 (rd l0 0) 128) != 0) = true := bne_iff_ne.mpr c8
            (first | rw [c8b0] | (simp only [i64_w, i32_w]; rw [c8b0]) | skip)
            have H' := Aside0.mk H
            clear H
            have p108 : 0 ≤ (0 : Int) := (by omega)
            have q108 : 0 < (l0.length : Int) := of_decide_eq_true (by first | (with_reducible assumption) | assumption)
            obtain ⟨ad108, e108, hx108_0⟩ := Kd.at_int (Kd.V_reads' HO0.out).2.2 0 p108 q108
            obtain rfl : ad105 = ad108 := (by injection e108)
            have qi108 : (0 < l0.length) = True := eq_true (by omega)
            (try rw [show ((0 : Int)).toNat = 0 from rfl] at hx108_0)
            (try rw [Addr.add_zero'] at hx108_0)
            replace p108 := eq_true p108
            replace q108 := eq_true q108
            go_wp2
            go_meet
            case rel => exact ⟨_, (wrap64 ((wrap64 (Go.bits .and .u8 (rd l0 0) 127)) - 64)), (by first | rfl | (simp; done) | (simp [*]; done)), (by first | rfl | (simp; done) | (simp [*]; done)), H', ⟨by first | omega | exact Nat.le_refl _⟩, ⟨by (with_reducible repeat (first | apply Kd.V_alloc | apply Kd.V_drewN | apply Kd.V_drew)); exact HO0.out⟩, ⟨by repeat (first | (with_reducible first | exact HB.out | apply below_alloc | apply pw_below_drewN | apply below_drew1) | exact HB.out)⟩⟩
        case rest =>
          clear HC7
          try clear p1
          try clear q1
          try clear hx1
          try clear qi1
          try clear c2
          try clear c2b0
          try clear c2b1
          try clear c2b2
          try clear p2
          try clear c3
          try clear c4
          try clear c5
          try clear c5b0
          try clear c5b1
          try clear c6
          try clear c6b0
          try clear c6b1
          try clear p6
          try clear c8
          try clear c8b0
          try clear c8b1
          try clear hx105_0
          try clear hx106_0
          try clear hx107_0
          try clear hx108_0
          try clear p105
          try clear p106
          try clear p107
          try clear p108
          try clear q105
          try clear q106
          try clear q107
          try clear q108
          obtain ⟨kq, x4_6, rfl, rfl, HA, HJ6, HO_0, HB⟩ := hcut
          cases kq with
          | zero => exact absurd HA.out (by simp [converters_FromNumber.j0])
          | succ kj6 =>
            have H := HA.out
            clear HA
            simp only [converters_FromNumber.j0] at H
            by_cases c9 : 1 ≤ (l0.length : Int)
            · rw [if_pos c9] at H
              have c9b0 := eq_true c9
              have c9b1 : decide (1 ≤ (l0.length : Int)) = true := decide_eq_true c9
              clear c9
              obtain ⟨y109, hy109⟩ : ∃ y_ : List Int, y_ = (l0.drop 1) := ⟨_, rfl⟩
              replace H : (if ((Go.bits .and .u8 (rd l0 0) 128) == 0) = true then (if 0 ≤ (wrap64 ((l0.length : Int) - 1)) then (if (wrap64 ((l0.length : Int) - 1)) < (l0.length : Int) then (converters_FromNumber.j1 kj6 l0 0 ((Go.bits .and .u8 (rd l0 0) 128) == 0) x4_6 y109 ((rd l0 (wrap64 ((l0.length : Int) - 1))) == 102)) else (none)) else (none)) else (converters_FromNumber.j1 kj6 l0 0 ((Go.bits .and .u8 (rd l0 0) 128) == 0) x4_6 y109 false)) = some (r1, r2, r3, r4, r5) := by first | (rw [hy109]; with_reducible exact H) | (have H2_ := (Option.bind_some _ _).symm.trans H; rw [hy109]; with_reducible exact H2_) | (have H2_ := (Option.bind_some _ _).symm.trans H; with_reducible exact H2_) | with_reducible exact H | (rw [hy109]; exact H) | exact H
              have Ny109 := Aside0.mk hy109
              clear hy109
              have HC10 := Aside0.mk H
              clear H
              have q11 : (1 : Int) ≤ ((l0.length : Int) : Int) := of_decide_eq_true (by first | (with_reducible assumption) | assumption)
              obtain ⟨i011, hi011, _, hsz11, _⟩ := info_parts info5
              have hroom11 : l0.length ≤ c0 := (Kd.V_reads' HO_0.out).2.1
              have hC11 : Kd.F (Kd.int .u8) _ _ (some ad105) l0.length l0 := (Kd.V_at (base := w.heap.size) HO_0.out).2.2
              have hcut11 := cut_from (P := Tryd.prog) 22 5 .i64 Tryd.underlying22 hi011 1 hsz11 (some ad105) l0.length c0 1 (by omega) q11
              have hr11 := Kd.F_cut (m := (1 : Int).toNat) (c := c0) hC11 (by omega) hroom11
              obtain ⟨A11, hA11⟩ : ∃ A1, A1 = (if c0 = (1 : Int).toNat then (some ad105) else ((some ad105) : Option Addr).map (·.add ((1 : Int).toNat * 1))) := ⟨_, rfl⟩
              obtain ⟨c11, hc11⟩ : ∃ c1, c1 = c0 - (1 : Int).toNat := ⟨_, rfl⟩
              have hy11 : y109.length = l0.length - (1 : Int).toNat := (by rw [Ny109.out, List.length_drop] <;> omega)
              rw [show (l0).drop (1 : Int).toNat = y109 from Ny109.out.symm] at hr11
              replace hr11 : Kd.F (Kd.int .u8) _ _ A11 y109.length y109 := (by rw [hA11]; exact hr11)
              rw [← hy11, ← hA11, ← hc11] at hcut11
              have HO113 := Aside0.mk (show Kd.V (Kd.int .u8) 5 _ w.heap.size _ (.slice A11 y109.length c11) y109 from Kd.V_mk (by rw [hy11, hc11]; exact Nat.sub_le_sub_right hroom11 _) hr11)
              have HC113 := Aside0.mk (show y109.length ≤ c11 from by rw [hy11, hc11]; exact Nat.sub_le_sub_right hroom11 _)
              clear hr11 hC11 hroom11 hi011 hsz11 hc11
              have KY11 := Aside0.mk hy11
              have KA11 := Aside0.mk hA11
              clear hy11 hA11
              replace q11 := eq_true q11
              go_upto_region 10 with (fail)
              go_cut [3, 49] (fun v3 v49 wc => ∃ (kq : Nat) (x49_9 : Bool), v3 = .bool ((Go.bits .and .u8 (rd l0 0) 128) == 0) ∧ v49 = .bool x49_9 ∧ Aside0 (converters_FromNumber.j1 kq l0 0 ((Go.bits .and .u8 (rd l0 0) 128) == 0) x4_6 y109 x49_9 = some (r1, r2, r3, r4, r5)) ∧ Aside0 (kq ≤ kj6) ∧ Aside0 (Kd.V (Kd.int .u8) 5 wc w.heap.size (fun k_ => (P0_ k_ ∨ w.heap.size ≤ k_)) (.slice (some ad105) l0.length c0) l0) ∧ Aside0 (Kd.V (Kd.int .u8) 5 wc w.heap.size (fun k_ => (P0_ k_ ∨ w.heap.size ≤ k_)) (.slice A11 y109.length c11) y109) ∧ Aside0 (Below w.heap.size w wc))
              case first =>
                have H := HC10.out
                clear HC10
                by_cases c12 : ((Go.bits .and .u8 (rd l0 0) 128) == 0) = true
                · rw [if_pos c12] at H
                  have c12b0 : ((Go.bits .and .u8 (rd l0 0) 128) == 0) = true := c12
                  (try (have c12b1 : decide ((Go.bits .and .u8 (rd l0 0) 128) = 0) = true := by simpa using c12))
                  (try (have c12b2 : ((Go.bits .and .u8 (rd l0 0) 128) == 0) = true := by simpa using c12))
                  clear c12
                  (first | rw [c12b0] | (simp only [i64_w, i32_w]; rw [c12b0]) | skip)
                  obtain ⟨ji13, hji13⟩ : ∃ j_ : Int, (wrap64 ((l0.length : Int) - 1)) = j_ := ⟨_, rfl⟩
                  replace H : (if 0 ≤ (ji13) then (if (ji13) < (l0.length : Int) then (converters_FromNumber.j1 kj6 l0 0 ((Go.bits .and .u8 (rd l0 0) 128) == 0) x4_6 y109 ((rd l0 (ji13)) == 102)) else (none)) else (none)) = some (r1, r2, r3, r4, r5) := by first | (rw [hji13] at H; exact H) | (simp only [hji13] at H ⊢; exact H)
                  have hji13w : (IntKind.i64.wrap ((l0.length : Int) - 1)) = ji13 := (i64_w _).trans hji13
                  by_cases c14 : 0 ≤ (ji13)
                  · rw [if_pos c14] at H
                    have c14b0 : decide (0 ≤ (ji13)) = true := decide_eq_true c14
                    clear c14
                    by_cases c15 : (ji13) < (l0.length : Int)
                    · rw [if_pos c15] at H
                      have c15b0 : decide ((ji13) < (l0.length : Int)) = true := decide_eq_true c15
                      clear c15
                      have H' := Aside0.mk H
                      clear H
                      have p114 : 0 ≤ ((ji13) : Int) := of_decide_eq_true (by first | (with_reducible assumption) | assumption)
                      have q114 : (ji13) < (l0.length : Int) := of_decide_eq_true (by first | (with_reducible assumption) | assumption)
                      obtain ⟨ad114, e114, hx114_0⟩ := Kd.at_int (Kd.V_reads' HO_0.out).2.2 (ji13) p114 q114
                      obtain rfl : ad105 = ad114 := (by injection e114)
                      replace p114 := eq_true p114
                      replace q114 := eq_true q114
                      go_wp2
                      go_meet
                      case rel => exact ⟨_, (((rd l0 (ji13)) == 102)), (by first | rfl | (simp; done) | (simp [*]; done)), (by first | rfl | (simp; done) | (simp only [← hji13] <;> (first | rfl | simp)) | (simp [*]; done)), H', ⟨by have := HJ6.out; first | omega | exact Nat.le_refl _⟩, ⟨by (with_reducible repeat (first | apply Kd.V_alloc | apply Kd.V_drewN | apply Kd.V_drew)); exact HO_0.out⟩, ⟨by (with_reducible repeat (first | apply Kd.V_alloc | apply Kd.V_drewN | apply Kd.V_drew)); exact HO113.out⟩, ⟨by repeat (first | (with_reducible first | exact HB.out | apply below_alloc | apply pw_below_drewN | apply below_drew1) | exact HB.out)⟩⟩
                    · rw [if_neg c15] at H
                      exact absurd H (by simp)
                  · rw [if_neg c14] at H
                    exact absurd H (by simp)
                · rw [if_neg c12] at H
                  have c12b0 : ((Go.bits .and .u8 (rd l0 0) 128) == 0) = false := by simpa using c12
                  (try (have c12b1 : decide ((Go.bits .and .u8 (rd l0 0) 128) = 0) = false := by simpa using c12))
                  (try (have c12b2 : ((Go.bits .and .u8 (rd l0 0) 128) == 0) = false := by simpa using c12))
                  (try (have c12b3 : ¬ ((Go.bits .and .u8 (rd l0 0) 128) = 0) := by simpa using c12))
                  clear c12
                  (first | rw [c12b0] | (simp only [i64_w, i32_w]; rw [c12b0]) | skip)
                  have H' := Aside0.mk H
                  clear H
                  go_wp2
                  go_meet
                  case rel => exact ⟨_, (false), (by first | rfl | (simp; done) | (simp [*]; done)), (by first | rfl | (simp; done) | (simp [*]; done)), H', ⟨by have := HJ6.out; first | omega | exact Nat.le_refl _⟩, ⟨by (with_reducible repeat (first | apply Kd.V_alloc | apply Kd.V_drewN | apply Kd.V_drew)); exact HO_0.out⟩, ⟨by (with_reducible repeat (first | apply Kd.V_alloc | apply Kd.V_drewN | apply Kd.V_drew)); exact HO113.out⟩, ⟨by repeat (first | (with_reducible first | exact HB.out | apply below_alloc | apply pw_below_drewN | apply below_drew1) | exact HB.out)⟩⟩
              case rest =>
                clear HC10
                try clear c1
                try clear p1
                try clear q1
                try clear hx1
                try clear qi1
                try clear c2
                try clear c2b0
                try clear c2b1
                try clear c2b2
                try clear p2
                try clear c3
                try clear c4
                try clear c5
                try clear c5b0
                try clear c5b1
                try clear c6
                try clear c6b0
                try clear c6b1
                try clear p6
                try clear c8
                try clear c8b0
                try clear c8b1
                try clear c9
                try clear c9b0
                try clear c9b1
                try clear p10
                try clear q10
                try clear hx10
                try clear qi10
                try clear c11
                try clear p11
                try clear q11
                try clear hx11
                try clear c12
                try clear c12b0
                try clear c12b1
                try clear c12b2
                try clear c14
                try clear c14b0
                try clear c15
                try clear c15b0
                try clear hx105_0
                try clear hx106_0
                try clear hx107_0
                try clear hx108_0
                try clear hx114_0
                try clear p1
                try clear p105
                try clear p106
                try clear p107
                try clear p108
                try clear p114
                try clear p2
                try clear p6
                try clear q1
                try clear q105
                try clear q106
                try clear q107
                try clear q108
                try clear q11
                try clear q114
                obtain ⟨kq, x49_9, rfl, rfl, HA, HJ9, HO_0, HO_7, HB⟩ := hcut
                cases kq with
                | zero => exact absurd HA.out (by simp [converters_FromNumber.j1])
                | succ kj9 =>
                  have H := HA.out
                  clear HA
                  simp only [converters_FromNumber.j1] at H
                  have HC16 := Aside0.mk H
                  clear H
                  go_upto_if 49 with (fail)
                  go_cut [7] (fun v7 wc => ∃ (kq : Nat) (x7_15 : List Int), Aside0 (converters_FromNumber.j2 kq 0 ((Go.bits .and .u8 (rd l0 0) 128) == 0) x4_6 x7_15 = some (r1, r2, r3, r4, r5)) ∧ Aside0 (kq ≤ kj9) ∧ Aside0 (Kd.V (Kd.int .u8) 5 wc w.heap.size (fun k_ => (P0_ k_ ∨ w.heap.size ≤ k_)) v7 x7_15) ∧ Aside0 (Below w.heap.size w wc))
                  case first =>
                    have H := HC16.out
                    clear HC16
                    by_cases c17 : x49_9 = true
                    · subst c17
                      have H1 : (if 1 ≤ (wrap64 ((l0.length : Int) - 1)) then (if (wrap64 ((l0.length : Int) - 1)) ≤ (l0.length : Int) then (converters_FromNumber.j2 kj9 0 ((Go.bits .and .u8 (rd l0 0) 128) == 0) x4_6 ((l0.take ((wrap64 ((l0.length : Int) - 1)) : Int).toNat).drop 1)) else (none)) else (none)) = some (r1, r2, r3, r4, r5) := by rw [if_pos rfl] at H; exact H
                      clear H
                      have H := H1
                      clear H1
                      by_cases c18 : 1 ≤ (wrap64 ((l0.length : Int) - 1))
                      · rw [if_pos c18] at H
                        have c18b0 := eq_true c18
                        have c18b1 : decide (1 ≤ (wrap64 ((l0.length : Int) - 1))) = true := decide_eq_true c18
                        clear c18
                        by_cases c19 : (wrap64 ((l0.length : Int) - 1)) ≤ (l0.length : Int)
                        · rw [if_pos c19] at H
                          have c19b0 := eq_true c19
                          have c19b1 : decide ((wrap64 ((l0.length : Int) - 1)) ≤ (l0.length : Int)) = true := decide_eq_true c19
                          clear c19
                          obtain ⟨y115, hy115⟩ : ∃ y_ : List Int, y_ = ((l0.take ((wrap64 ((l0.length : Int) - 1)) : Int).toNat).drop 1) := ⟨_, rfl⟩
                          replace H : (converters_FromNumber.j2 kj9 0 ((Go.bits .and .u8 (rd l0 0) 128) == 0) x4_6 y115) = some (r1, r2, r3, r4, r5) := by first | (rw [hy115]; with_reducible exact H) | (have H2_ := (Option.bind_some _ _).symm.trans H; rw [hy115]; with_reducible exact H2_) | (have H2_ := (Option.bind_some _ _).symm.trans H; with_reducible exact H2_) | with_reducible exact H | (rw [hy115]; exact H) | exact H
                          have Ny115 := Aside0.mk hy115
                          clear hy115
                          have H' := Aside0.mk H
                          clear H
                          have q20 : ((wrap64 ((l0.length : Int) - 1)) : Int) ≤ ((l0.length : Int) : Int) := of_decide_eq_true (by first | (with_reducible assumption) | assumption)
                          obtain ⟨i020, hi020, _, hsz20, _⟩ := info_parts info5
                          have hroom20 : l0.length ≤ c0 := (Kd.V_reads' HO_0.out).2.1
                          have hC20 : Kd.F (Kd.int .u8) _ _ (some ad105) l0.length l0 := (Kd.V_at (base := w.heap.size) HO_0.out).2.2
                          have ql20 : (1 : Int) ≤ ((wrap64 ((l0.length : Int) - 1)) : Int) := of_decide_eq_true (by first | (with_reducible assumption) | assumption)
                          have hcut20 := cut_mid (P := Tryd.prog) 22 5 .i64 .i64 Tryd.underlying22 hi020 1 hsz20 (some ad105) l0.length c0 1 (wrap64 ((l0.length : Int) - 1)) (by omega) ql20 q20 hroom20
                          have hr20 := Kd.F_mid (lo := (1 : Int).toNat) (hi := ((wrap64 ((l0.length : Int) - 1)) : Int).toNat) (c := c0) hC20 (by omega) (by omega) hroom20
                          obtain ⟨A20, hA20⟩ : ∃ A1, A1 = (if c0 = (1 : Int).toNat then (some ad105) else ((some ad105) : Option Addr).map (·.add ((1 : Int).toNat * 1))) := ⟨_, rfl⟩
                          obtain ⟨c20, hc20⟩ : ∃ c1, c1 = c0 - (1 : Int).toNat := ⟨_, rfl⟩
                          have hy20 : y115.length = ((wrap64 ((l0.length : Int) - 1)) : Int).toNat - (1 : Int).toNat := (by rw [Ny115.out, List.length_drop, List.length_take] <;> omega)
                          rw [show ((l0).take ((wrap64 ((l0.length : Int) - 1)) : Int).toNat).drop (1 : Int).toNat = y115 from Ny115.out.symm] at hr20
                          replace hr20 : Kd.F (Kd.int .u8) _ _ A20 y115.length y115 := (by rw [hA20]; exact hr20)
                          rw [← hy20, ← hA20, ← hc20] at hcut20
                          have HO119 := Aside0.mk (show Kd.V (Kd.int .u8) 5 _ w.heap.size _ (.slice A20 y115.length c20) y115 from Kd.V_mk (by rw [hy20, hc20]; exact Nat.sub_le_sub_right (Nat.le_trans (by omega) hroom20) _) hr20)
                          have HC119 := Aside0.mk (show y115.length ≤ c20 from by rw [hy20, hc20]; exact Nat.sub_le_sub_right (Nat.le_trans (by omega) hroom20) _)
                          clear hr20 hC20 hroom20 hi020 hsz20 hc20
                          have KY20 := Aside0.mk hy20
                          have KA20 := Aside0.mk hA20
                          clear hy20 hA20
                          replace q20 := eq_true q20
                          go_wp2
                          go_meet
                          case rel => exact ⟨_, (y115), H', ⟨by have := HJ6.out; have := HJ9.out; first | omega | exact Nat.le_refl _⟩, ⟨by (with_reducible repeat (first | apply Kd.V_alloc | apply Kd.V_drewN | apply Kd.V_drew)); exact HO119.out⟩, ⟨by repeat (first | (with_reducible first | exact HB.out | apply below_alloc | apply pw_below_drewN | apply below_drew1) | exact HB.out)⟩⟩
                        · rw [if_neg c19] at H
                          exact absurd H (by simp)
                      · rw [if_neg c18] at H
                        exact absurd H (by simp)
                    · replace c17 := Bool.eq_false_iff.mpr c17
                      subst c17
                      have H1 : (converters_FromNumber.j2 kj9 0 ((Go.bits .and .u8 (rd l0 0) 128) == 0) x4_6 y109) = some (r1, r2, r3, r4, r5) := by rw [if_neg (show ¬ (false = true) by decide)] at H; exact H
                      clear H
                      have H := H1
                      clear H1
                      have H' := Aside0.mk H
                      clear H
                      go_wp2
                      go_meet
                      case rel => exact ⟨_, (y109), H', ⟨by have := HJ6.out; have := HJ9.out; first | omega | exact Nat.le_refl _⟩, ⟨by (with_reducible repeat (first | apply Kd.V_alloc | apply Kd.V_drewN | apply Kd.V_drew)); exact HO_7.out⟩, ⟨by repeat (first | (with_reducible first | exact HB.out | apply below_alloc | apply pw_below_drewN | apply below_drew1) | exact HB.out)⟩⟩
                  case rest =>
                    clear HC16
                    try clear c1
                    try clear p1
                    try clear q1
                    try clear hx1
                    try clear qi1
                    try clear c2
                    try clear c2b0
                    try clear c2b1
                    try clear c2b2
                    try clear p2
                    try clear q2
                    try clear c3
                    try clear c4
                    try clear c5
                    try clear c5b0
                    try clear c5b1
                    try clear c6
                    try clear c6b0
                    try clear c6b1
                    try clear p6
                    try clear c8
                    try clear c8b0
                    try clear c8b1
                    try clear c9
                    try clear c9b0
                    try clear c9b1
                    try clear p10
                    try clear q10
                    try clear hx10
                    try clear qi10
                    try clear c11
                    try clear p11
                    try clear q11
                    try clear hx11
                    try clear c12
                    try clear c12b0
                    try clear c12b1
                    try clear c12b2
                    try clear c14
                    try clear c14b0
                    try clear c15
                    try clear c15b0
                    try clear c17
                    try clear c18
                    try clear c18b0
                    try clear c18b1
                    try clear c19
                    try clear c19b0
                    try clear c19b1
                    try clear c20
                    try clear q20
                    try clear hx105_0
                    try clear hx106_0
                    try clear hx107_0
                    try clear hx108_0
                    try clear hx114_0
                    try clear p1
                    try clear p10
                    try clear p105
                    try clear p106
                    try clear p107
                    try clear p108
                    try clear p11
                    try clear p114
                    try clear p2
                    try clear p6
                    try clear q1
                    try clear q10
                    try clear q105
                    try clear q106
                    try clear q107
                    try clear q108
                    try clear q11
                    try clear q114
                    try clear q20
                    obtain ⟨kq, x7_15, HA, HJ15, HO_7, HB⟩ := hcut
                    cases kq with
                    | zero => exact absurd HA.out (by simp [converters_FromNumber.j2])
                    | succ kj15 =>
                      have H := HA.out
                      clear HA
                      simp only [converters_FromNumber.j2] at H
                      have H' := Aside0.mk H
                      clear H
                      obtain ⟨Ao21, co21, eo21⟩ := Kd.V_slice HO_7.out
                      subst eo21
                      go_wp2
                      go_loopg [2, 5, 9, 57] kj15 (fun kq v2 v5 v9 v57 w' => ∃ (x2_4 : Int) (x5_4 : Int) (x9_4 : Int) (x57_4 : Int), v2 = .int .u64 x2_4 ∧ v5 = .int .i64 x5_4 ∧ v9 = .int .i64 x9_4 ∧ v57 = .int .i64 x57_4 ∧ Aside0 (converters_FromNumber.l0 kq x2_4 ((Go.bits .and .u8 (rd l0 0) 128) == 0) x4_6 x5_4 x9_4 x7_15 (x7_15.length : Int) x57_4 = some (r1, r2, r3, r4, r5)) ∧ Aside0 (kq ≤ kj15) ∧ Aside0 (Kd.V (Kd.int .u8) 5 w' w.heap.size (fun k_ => (P0_ k_ ∨ w.heap.size ≤ k_)) (.slice Ao21 x7_15.length co21) x7_15) ∧ Aside0 (Below w.heap.size w w'))
                      case atStart => exact ⟨(0), (0), (0), (0), (by first | rfl | (simp; done) | (simp [*]; done)), (by first | rfl | (simp; done) | (simp [*]; done)), (by first | rfl | (simp; done) | (simp [*]; done)), (by first | rfl | (simp; done) | (simp [*]; done)), H', ⟨Nat.le_refl _⟩, ⟨by (with_reducible repeat (first | apply Kd.V_alloc | apply Kd.V_drewN | apply Kd.V_drew)); exact HO_7.out⟩, ⟨by repeat (first | (with_reducible first | exact HB.out | apply below_alloc | apply pw_below_drewN | apply below_drew1) | exact HB.out)⟩⟩
                      case round =>
                        clear H'
                        try clear c1
                        try clear p1
                        try clear q1
                        try clear hx1
                        try clear qi1
                        try clear c2
                        try clear c2b0
                        try clear c2b1
                        try clear c2b2
                        try clear p2
                        try clear q2
                        try clear c3
                        try clear c4
                        try clear c5
                        try clear c5b0
                        try clear c5b1
                        try clear c6
                        try clear c6b0
                        try clear c6b1
                        try clear p6
                        try clear c8
                        try clear c8b0
                        try clear c8b1
                        try clear c9
                        try clear c9b0
                        try clear c9b1
                        try clear p10
                        try clear q10
                        try clear hx10
                        try clear qi10
                        try clear c11
                        try clear p11
                        try clear q11
                        try clear hx11
                        try clear c12
                        try clear c12b0
                        try clear c12b1
                        try clear c12b2
                        try clear c14
                        try clear c14b0
                        try clear c15
                        try clear c15b0
                        try clear c17
                        try clear c18
                        try clear c18b0
                        try clear c18b1
                        try clear c19
                        try clear c19b0
                        try clear c19b1
                        try clear c20
                        try clear q20
                        try clear hx105_0
                        try clear hx106_0
                        try clear hx107_0
                        try clear hx108_0
                        try clear hx114_0
                        try clear p1
                        try clear p10
                        try clear p105
                        try clear p106
                        try clear p107
                        try clear p108
                        try clear p11
                        try clear p114
                        try clear p2
                        try clear p6
                        try clear q1
                        try clear q10
                        try clear q105
                        try clear q106
                        try clear q107
                        try clear q108
                        try clear q11
                        try clear q114
                        try clear q2
                        try clear q20
                        obtain ⟨x2_4, x5_4, x9_4, x57_4, rfl, rfl, rfl, rfl, HA, HK4, HO_55, HB⟩ := hrel
                        cases gk with
                        | zero => exact absurd HA.out (by simp [converters_FromNumber.l0])
                        | succ k4 =>
                          have H := HA.out
                          clear HA
                          simp only [converters_FromNumber.l0] at H
                          by_cases c22 : x57_4 < (x7_15.length : Int)
                          · rw [if_pos c22] at H
                            have c22b0 : decide (x57_4 < (x7_15.length : Int)) = true := decide_eq_true c22
                            clear c22
                            by_cases c23 : 0 ≤ x57_4
                            · rw [if_pos c23] at H
                              have c23b0 : decide (0 ≤ x57_4) = true := decide_eq_true c23
                              clear c23
                              by_cases c24 : x57_4 < (x7_15.length : Int)
                              · rw [if_pos c24] at H
                                have c24b0 : decide (x57_4 < (x7_15.length : Int)) = true := decide_eq_true c24
                                clear c24
                                have HC25 := Aside0.mk H
                                clear H
                                have p120 : 0 ≤ (x57_4 : Int) := of_decide_eq_true (by first | (with_reducible assumption) | assumption)
                                have q120 : x57_4 < (x7_15.length : Int) := of_decide_eq_true (by first | (with_reducible assumption) | assumption)
                                obtain ⟨ad120, e120, hx120_0⟩ := Kd.at_int (Kd.V_reads' HO_55.out).2.2 x57_4 p120 q120
                                cases e120
                                replace p120 := eq_true p120
                                replace q120 := eq_true q120
                                go_upto_if 63 with (fail)
                                go_cut [9] (fun v9 wc => ∃ (kq : Nat) (x9_24 : Int), v9 = .int .i64 x9_24 ∧ Aside0 (converters_FromNumber.j4 kq x2_4 ((Go.bits .and .u8 (rd l0 0) 128) == 0) x4_6 x5_4 x9_24 (rd x7_15 x57_4) x7_15 (x7_15.length : Int) x57_4 = some (r1, r2, r3, r4, r5)) ∧ Aside0 (kq ≤ k4) ∧ Aside0 (Kd.V (Kd.int .u8) 5 wc w.heap.size (fun k_ => (P0_ k_ ∨ w.heap.size ≤ k_)) (.slice (some ad120) x7_15.length co21) x7_15) ∧ Aside0 (Below w.heap.size w wc))
                                case first =>
                                  have H := HC25.out
                                  clear HC25
                                  by_cases c26 : x57_4 = 0
                                  · rw [if_pos c26] at H
                                    have c26b0 : (x57_4 == 0) = true := beq_iff_eq.mpr c26
                                    have c26b1 : (x57_4 != 0) = false := bne_eq_false_iff_eq.mpr c26
                                    clear c26
                                    (first | rw [c26b0] | (simp only [i64_w, i32_w]; rw [c26b0]) | skip)
                                    have H' := Aside0.mk H
                                    clear H
                                    go_wp2
                                    go_meet
                                    case rel => exact ⟨_, ((-1)), (by first | rfl | (simp; done) | (simp [*]; done)), H', ⟨by have := HJ6.out; have := HJ9.out; have := HJ15.out; have := HK4.out; first | omega | exact Nat.le_refl _⟩, ⟨by (with_reducible repeat (first | apply Kd.V_alloc | apply Kd.V_drewN | apply Kd.V_drew)); exact HO_55.out⟩, ⟨by repeat (first | (with_reducible first | exact HB.out | apply below_alloc | apply pw_below_drewN | apply below_drew1) | exact HB.out)⟩⟩
                                  · rw [if_neg c26] at H
                                    have c26b0 : (x57_4 == 0) = false := beq_eq_false_iff_ne.mpr c26
                                    have c26b1 : (x57_4 != 0) = true := bne_iff_ne.mpr c26
                                    (first | rw [c26b0] | (simp only [i64_w, i32_w]; rw [c26b0]) | skip)
                                    have H' := Aside0.mk H
                                    clear H
                                    go_wp2
                                    go_meet
                                    case rel => exact ⟨_, (x9_4), (by first | rfl | (simp; done) | (simp [*]; done)), H', ⟨by have := HJ6.out; have := HJ9.out; have := HJ15.out; have := HK4.out; first | omega | exact Nat.le_refl _⟩, ⟨by (with_reducible repeat (first | apply Kd.V_alloc | apply Kd.V_drewN | apply Kd.V_drew)); exact HO_55.out⟩, ⟨by repeat (first | (with_reducible first | exact HB.out | apply below_alloc | apply pw_below_drewN | apply below_drew1) | exact HB.out)⟩⟩
                                case rest =>
                                  clear HC25
                                  try clear c1
                                  try clear p1
                                  try clear q1
                                  try clear hx1
                                  try clear qi1
                                  try clear c2
                                  try clear c2b0
                                  try clear c2b1
                                  try clear c2b2
                                  try clear p2
                                  try clear q2
                                  try clear c3
                                  try clear c4
                                  try clear c5
                                  try clear c5b0
                                  try clear c5b1
                                  try clear c6
                                  try clear c6b0
                                  try clear c6b1
                                  try clear p6
                                  try clear c8
                                  try clear c8b0
                                  try clear c8b1
                                  try clear c9
                                  try clear c9b0
                                  try clear c9b1
                                  try clear p10
                                  try clear q10
                                  try clear hx10
                                  try clear qi10
                                  try clear c11
                                  try clear p11
                                  try clear q11
                                  try clear hx11
                                  try clear c12
                                  try clear c12b0
                                  try clear c12b1
                                  try clear c12b2
                                  try clear p12
                                  try clear q12
                                  try clear hx12
                                  try clear c14
                                  try clear c14b0
                                  try clear c15
                                  try clear c15b0
                                  try clear c17
                                  try clear c18
                                  try clear c18b0
                                  try clear c18b1
                                  try clear c19
                                  try clear c19b0
                                  try clear c19b1
                                  try clear c20
                                  try clear q20
                                  try clear c22
                                  try clear c22b0
                                  try clear c23
                                  try clear c23b0
                                  try clear c24
                                  try clear c24b0
                                  try clear c26
                                  try clear c26b0
                                  try clear c26b1
                                  try clear hx105_0
                                  try clear hx106_0
                                  try clear hx107_0
                                  try clear hx108_0
                                  try clear hx114_0
                                  try clear hx120_0
                                  try clear p1
                                  try clear p10
                                  try clear p105
                                  try clear p106
                                  try clear p107
                                  try clear p108
                                  try clear p11
                                  try clear p114
                                  try clear p120
                                  try clear p2
                                  try clear p6
                                  try clear q1
                                  try clear q10
                                  try clear q105
                                  try clear q106
                                  try clear q107
                                  try clear q108
                                  try clear q11
                                  try clear q114
                                  try clear q120
                                  try clear q2
                                  try clear q20
                                  obtain ⟨kq, x9_24, rfl, HA, HJ24, HO_55, HB⟩ := hcut
                                  cases kq with
                                  | zero => exact absurd HA.out (by simp [converters_FromNumber.j4])
                                  | succ kj24 =>
                                    have H := HA.out
                                    clear HA
                                    simp only [converters_FromNumber.j4] at H
                                    have HC27 := Aside0.mk H
                                    clear H
                                    go_upto_if 66 with (fail)
                                    go_cut [3, 11] (fun v3 v11 wc => ∃ (kq : Nat) (x11_26 : Int), v3 = .bool ((Go.bits .and .u8 (rd l0 0) 128) == 0) ∧ v11 = .int .u8 x11_26 ∧ Aside0 (converters_FromNumber.j5 kq x2_4 ((Go.bits .and .u8 (rd l0 0) 128) == 0) x4_6 x5_4 x9_24 x11_26 x7_15 (x7_15.length : Int) x57_4 = some (r1, r2, r3, r4, r5)) ∧ Aside0 (kq ≤ kj24) ∧ Aside0 (Kd.V (Kd.int .u8) 5 wc w.heap.size (fun k_ => (P0_ k_ ∨ w.heap.size ≤ k_)) (.slice (some ad120) x7_15.length co21) x7_15) ∧ Aside0 (Below w.heap.size w wc))
                                    case first =>
                                      have H := HC27.out
                                      clear HC27
                                      by_cases c28 : ((Go.bits .and .u8 (rd l0 0) 128) == 0) = true
                                      · rw [if_pos c28] at H
                                        have c28b0 : ((Go.bits .and .u8 (rd l0 0) 128) == 0) = true := c28
                                        (try (have c28b1 : decide ((Go.bits .and .u8 (rd l0 0) 128) = 0) = true := by simpa using c28))
                                        (try (have c28b2 : ((Go.bits .and .u8 (rd l0 0) 128) == 0) = true := by simpa using c28))
                                        clear c28
                                        (first | rw [c28b0] | (simp only [i64_w, i32_w]; rw [c28b0]) | skip)
                                        have H' := Aside0.mk H
                                        clear H
                                        go_wp2
                                        go_meet
                                        case rel => exact ⟨_, ((100 - (((rd x7_15 x57_4) - 1) % 256)) % 256), (by first | rfl | (simp; done) | (simp [*]; done)), (by first | rfl | (simp; done) | (simp [*]; done)), H', ⟨by have := HJ6.out; have := HJ9.out; have := HJ15.out; have := HK4.out; have := HJ24.out; first | omega | exact Nat.le_refl _⟩, ⟨by (with_reducible repeat (first | apply Kd.V_alloc | apply Kd.V_drewN | apply Kd.V_drew)); exact HO_55.out⟩, ⟨by repeat (first | (with_reducible first | exact HB.out | apply below_alloc | apply pw_below_drewN | apply below_drew1) | exact HB.out)⟩⟩
                                      · rw [if_neg c28] at H
                                        have c28b0 : ((Go.bits .and .u8 (rd l0 0) 128) == 0) = false := by simpa using c28
                                        (try (have c28b1 : decide ((Go.bits .and .u8 (rd l0 0) 128) = 0) = false := by simpa using c28))
                                        (try (have c28b2 : ((Go.bits .and .u8 (rd l0 0) 128) == 0) = false := by simpa using c28))
                                        (try (have c28b3 : ¬ ((Go.bits .and .u8 (rd l0 0) 128) = 0) := by simpa using c28))
                                        clear c28
                                        (first | rw [c28b0] | (simp only [i64_w, i32_w]; rw [c28b0]) | skip)
                                        have H' := Aside0.mk H
                                        clear H
                                        go_wp2
                                        go_meet
                                        case rel => exact ⟨_, (((rd x7_15 x57_4) - 1) % 256), (by first | rfl | (simp; done) | (simp [*]; done)), (by first | rfl | (simp; done) | (simp [*]; done)), H', ⟨by have := HJ6.out; have := HJ9.out; have := HJ15.out; have := HK4.out; have := HJ24.out; first | omega | exact Nat.le_refl _⟩, ⟨by (with_reducible repeat (first | apply Kd.V_alloc | apply Kd.V_drewN | apply Kd.V_drew)); exact HO_55.out⟩, ⟨by repeat (first | (with_reducible first | exact HB.out | apply below_alloc | apply pw_below_drewN | apply below_drew1) | exact HB.out)⟩⟩
                                    case rest =>
                                      clear HC27
                                      try clear c1
                                      try clear p1
                                      try clear q1
                                      try clear hx1
                                      try clear qi1
                                      try clear c2
                                      try clear c2b0
                                      try clear c2b1
                                      try clear c2b2
                                      try clear p2
                                      try clear q2
                                      try clear c3
                                      try clear c4
                                      try clear c5
                                      try clear c5b0
                                      try clear c5b1
                                      try clear c6
                                      try clear c6b0
                                      try clear c6b1
                                      try clear p6
                                      try clear c8
                                      try clear c8b0
                                      try clear c8b1
                                      try clear c9
                                      try clear c9b0
                                      try clear c9b1
                                      try clear p10
                                      try clear q10
                                      try clear hx10
                                      try clear qi10
                                      try clear c11
                                      try clear p11
                                      try clear q11
                                      try clear hx11
                                      try clear c12
                                      try clear c12b0
                                      try clear c12b1
                                      try clear c12b2
                                      try clear p12
                                      try clear q12
                                      try clear hx12
                                      try clear c14
                                      try clear c14b0
                                      try clear c15
                                      try clear c15b0
                                      try clear c17
                                      try clear c18
                                      try clear c18b0
                                      try clear c18b1
                                      try clear c19
                                      try clear c19b0
                                      try clear c19b1
                                      try clear c20
                                      try clear q20
                                      try clear c22
                                      try clear c22b0
                                      try clear c23
                                      try clear c23b0
                                      try clear c24
                                      try clear c24b0
                                      try clear c26
                                      try clear c26b0
                                      try clear c26b1
                                      try clear c28
                                      try clear c28b0
                                      try clear c28b1
                                      try clear c28b2
                                      try clear hx105_0
                                      try clear hx106_0
                                      try clear hx107_0
                                      try clear hx108_0
                                      try clear hx114_0
                                      try clear hx120_0
                                      try clear p1
                                      try clear p10
                                      try clear p105
                                      try clear p106
                                      try clear p107
                                      try clear p108
                                      try clear p11
                                      try clear p114
                                      try clear p12
                                      try clear p120
                                      try clear p2
                                      try clear p6
                                      try clear q1
                                      try clear q10
                                      try clear q105
                                      try clear q106
                                      try clear q107
                                      try clear q108
                                      try clear q11
                                      try clear q114
                                      try clear q12
                                      try clear q120
                                      try clear q2
                                      try clear q20
                                      obtain ⟨kq, x11_26, rfl, rfl, HA, HJ26, HO_55, HB⟩ := hcut
                                      cases kq with
                                      | zero => exact absurd HA.out (by simp [converters_FromNumber.j5])
                                      | succ kj26 =>
                                        have H := HA.out
                                        clear HA
                                        simp only [converters_FromNumber.j5] at H
                                        replace H := Option.bind_eq_some_iff.mp H
                                        obtain ⟨⟨t121, t122⟩, A290, H⟩ := H
                                        replace H : (if t122 = true then (some (t121, ((Go.bits .and .u8 (rd l0 0) 128) == 0), wrap64 ((wrap64 (x4_6 * 2)) - x5_4), wrap64 (x5_4 + x9_24), none)) else ((converters_addDigitToMantissa.f t121 (Int.tmod x11_26 10)).bind fun bt123 => (if bt123.2 = true then (some (bt123.1, ((Go.bits .and .u8 (rd l0 0) 128) == 0), wrap64 ((wrap64 (x4_6 * 2)) - (wrap64 (x5_4 + 1))), wrap64 ((wrap64 (x5_4 + 1)) + x9_24), none)) else (converters_FromNumber.l0 kj26 bt123.1 ((Go.bits .and .u8 (rd l0 0) 128) == 0) x4_6 (wrap64 ((wrap64 (x5_4 + 1)) + 1)) x9_24 x7_15 (x7_15.length : Int) (wrap64 (x57_4 + 1)))))) = some (r1, r2, r3, r4, r5) := H
                                        have A29 := Aside0.mk A290
                                        clear A290
                                        by_cases c30 : t122 = true
                                        · subst c30
                                          have H1 : (some (t121, ((Go.bits .and .u8 (rd l0 0) 128) == 0), wrap64 ((wrap64 (x4_6 * 2)) - x5_4), wrap64 (x5_4 + x9_24), none)) = some (r1, r2, r3, r4, r5) := by rw [if_pos rfl] at H; exact H
                                          clear H
                                          have H := H1
                                          clear H1
                                          simp only [Option.some.injEq, Prod.mk.injEq] at H
                                          obtain ⟨rfl, rfl, rfl, rfl, rfl⟩ := H
                                          go_wp2_with (first | ((with_reducible refine gate_callee (f := 44) rfl ?_); refine goesL_ (some 73) rfl rfl Tryd.func44 (by kernel_rfl) rfl #[.int .u64 x2_4, .int .u8 ((Int.tdiv x11_26 10) % 256)] rfl (by (try simp only [List.map_toArray, List.map_cons, List.map_nil]); first | done | rfl | (simp only [List.length_drop, List.length_take]; rfl)) ?_; (with_reducible refine (converters_addDigitToMantissa.calls x2_4 ((Int.tdiv x11_26 10) % 256) t121 true _ A29.out).mono ?_); rintro e w' ⟨rfl, ⟨nd, rfl⟩⟩; refine ⟨_, rfl, ?_⟩))
                                          refine bodyPost_ret (results_list (rs := [.tmp 2, .tmp 3, .tmp 4, .tmp 5, .tmp 6]) rfl (by simp) (.tmp (.tmp (.tmp (.tmp (.tmp .nil)))))) rfl ?_
                                          exact ⟨by first | rfl | (simp [errW_none, errW_some] <;> rfl) | (simp [*, errW_none, errW_some] <;> rfl), by repeat (first | (with_reducible first | exact HB.out | apply below_alloc | apply pw_below_drewN | apply below_drew1) | exact HB.out)⟩
                                        · replace c30 := Bool.eq_false_iff.mpr c30
                                          subst c30
                                          have H1 : ((converters_addDigitToMantissa.f t121 (Int.tmod x11_26 10)).bind fun bt123 => (if bt123.2 = true then (some (bt123.1, ((Go.bits .and .u8 (rd l0 0) 128) == 0), wrap64 ((wrap64 (x4_6 * 2)) - (wrap64 (x5_4 + 1))), wrap64 ((wrap64 (x5_4 + 1)) + x9_24), none)) else (converters_FromNumber.l0 kj26 bt123.1 ((Go.bits .and .u8 (rd l0 0) 128) == 0) x4_6 (wrap64 ((wrap64 (x5_4 + 1)) + 1)) x9_24 x7_15 (x7_15.length : Int) (wrap64 (x57_4 + 1))))) = some (r1, r2, r3, r4, r5) := by rw [if_neg (show ¬ (false = true) by decide)] at H; exact H
                                          clear H
                                          have H := H1
                                          clear H1
                                          replace H := Option.bind_eq_some_iff.mp H
                                          obtain ⟨⟨t123, t124⟩, A310, H⟩ := H
                                          replace H : (if t124 = true then (some (t123, ((Go.bits .and .u8 (rd l0 0) 128) == 0), wrap64 ((wrap64 (x4_6 * 2)) - (wrap64 (x5_4 + 1))), wrap64 ((wrap64 (x5_4 + 1)) + x9_24), none)) else (converters_FromNumber.l0 kj26 t123 ((Go.bits .and .u8 (rd l0 0) 128) == 0) x4_6 (wrap64 ((wrap64 (x5_4 + 1)) + 1)) x9_24 x7_15 (x7_15.length : Int) (wrap64 (x57_4 + 1)))) = some (r1, r2, r3, r4, r5) := H
                                          have A31 := Aside0.mk A310
                                          clear A310
                                          by_cases c32 : t124 = true
                                          · subst c32
                                            have H1 : (some (t123, ((Go.bits .and .u8 (rd l0 0) 128) == 0), wrap64 ((wrap64 (x4_6 * 2)) - (wrap64 (x5_4 + 1))), wrap64 ((wrap64 (x5_4 + 1)) + x9_24), none)) = some (r1, r2, r3, r4, r5) := by rw [if_pos rfl] at H; exact H
                                            clear H
                                            have H := H1
                                            clear H1
                                            simp only [Option.some.injEq, Prod.mk.injEq] at H
                                            obtain ⟨rfl, rfl, rfl, rfl, rfl⟩ := H
                                            go_wp2_with (first | ((with_reducible refine gate_callee (f := 44) rfl ?_); refine goesL_ (some 73) rfl rfl Tryd.func44 (by kernel_rfl) rfl #[.int .u64 x2_4, .int .u8 ((Int.tdiv x11_26 10) % 256)] rfl (by (try simp only [List.map_toArray, List.map_cons, List.map_nil]); first | done | rfl | (simp only [List.length_drop, List.length_take]; rfl)) ?_; (with_reducible refine (converters_addDigitToMantissa.calls x2_4 ((Int.tdiv x11_26 10) % 256) t121 false _ A29.out).mono ?_); rintro e w' ⟨rfl, ⟨nd, rfl⟩⟩; refine ⟨_, rfl, ?_⟩) | ((with_reducible refine gate_callee (f := 44) rfl ?_); refine goesL_ (some 83) rfl rfl Tryd.func44 (by kernel_rfl) rfl #[.int .u64 t121, .int .u8 (Int.tmod x11_26 10)] rfl (by (try simp only [List.map_toArray, List.map_cons, List.map_nil]); first | done | rfl | (simp only [List.length_drop, List.length_take]; rfl)) ?_; (with_reducible refine (converters_addDigitToMantissa.calls t121 (Int.tmod x11_26 10) t123 true _ A31.out).mono ?_); rintro e w' ⟨rfl, ⟨nd, rfl⟩⟩; refine ⟨_, rfl, ?_⟩))
                                            refine bodyPost_ret (results_list (rs := [.tmp 2, .tmp 3, .tmp 4, .tmp 5, .tmp 6]) rfl (by simp) (.tmp (.tmp (.tmp (.tmp (.tmp .nil)))))) rfl ?_
                                            exact ⟨by first | rfl | (simp [errW_none, errW_some] <;> rfl) | (simp [*, errW_none, errW_some] <;> rfl), by repeat (first | (with_reducible first | exact HB.out | apply below_alloc | apply pw_below_drewN | apply below_drew1) | exact HB.out)⟩
                                          · replace c32 := Bool.eq_false_iff.mpr c32
                                            subst c32
                                            have H1 : (converters_FromNumber.l0 kj26 t123 ((Go.bits .and .u8 (rd l0 0) 128) == 0) x4_6 (wrap64 ((wrap64 (x5_4 + 1)) + 1)) x9_24 x7_15 (x7_15.length : Int) (wrap64 (x57_4 + 1))) = some (r1, r2, r3, r4, r5) := by rw [if_neg (show ¬ (false = true) by decide)] at H; exact H
                                            clear H
                                            have H := H1
                                            clear H1
                                            have H' := Aside0.mk H
                                            clear H
                                            go_wp2_with (first | ((with_reducible refine gate_callee (f := 44) rfl ?_); refine goesL_ (some 73) rfl rfl Tryd.func44 (by kernel_rfl) rfl #[.int .u64 x2_4, .int .u8 ((Int.tdiv x11_26 10) % 256)] rfl (by (try simp only [List.map_toArray, List.map_cons, List.map_nil]); first | done | rfl | (simp only [List.length_drop, List.length_take]; rfl)) ?_; (with_reducible refine (converters_addDigitToMantissa.calls x2_4 ((Int.tdiv x11_26 10) % 256) t121 false _ A29.out).mono ?_); rintro e w' ⟨rfl, ⟨nd, rfl⟩⟩; refine ⟨_, rfl, ?_⟩) | ((with_reducible refine gate_callee (f := 44) rfl ?_); refine goesL_ (some 83) rfl rfl Tryd.func44 (by kernel_rfl) rfl #[.int .u64 t121, .int .u8 (Int.tmod x11_26 10)] rfl (by (try simp only [List.map_toArray, List.map_cons, List.map_nil]); first | done | rfl | (simp only [List.length_drop, List.length_take]; rfl)) ?_; (with_reducible refine (converters_addDigitToMantissa.calls t121 (Int.tmod x11_26 10) t123 false _ A31.out).mono ?_); rintro e w' ⟨rfl, ⟨nd, rfl⟩⟩; refine ⟨_, rfl, ?_⟩))
                                            go_roundg kj26
                                            case measure => have := HJ6.out; have := HJ9.out; have := HJ15.out; have := HK4.out; have := HJ24.out; have := HJ26.out; omega
                                            case rel => exact ⟨(t123), (wrap64 ((wrap64 (x5_4 + 1)) + 1)), (x9_24), (wrap64 (x57_4 + 1)), (by first | rfl | (simp; done) | (simp [*]; done)), (by first | rfl | (simp; done) | (simp [*]; done)), (by first | rfl | (simp; done) | (simp [*]; done)), (by first | rfl | (simp; done) | (simp [*]; done)), H', ⟨by have := HJ6.out; have := HJ9.out; have := HJ15.out; have := HK4.out; have := HJ24.out; have := HJ26.out; omega⟩, ⟨by (with_reducible repeat (first | apply Kd.V_alloc | apply Kd.V_drewN | apply Kd.V_drew)); exact HO_55.out⟩, ⟨by repeat (first | (with_reducible first | exact HB.out | apply below_alloc | apply pw_below_drewN | apply below_drew1) | exact HB.out)⟩⟩
                              · rw [if_neg c24] at H
                                exact absurd H (by simp)
                            · rw [if_neg c23] at H
                              exact absurd H (by simp)
                          · rw [if_neg c22] at H
                            have c22b0 : decide (x57_4 < (x7_15.length : Int)) = false := decide_eq_false c22
                            clear c22
                            simp only [Option.some.injEq, Prod.mk.injEq] at H
                            obtain ⟨rfl, rfl, rfl, rfl, rfl⟩ := H
                            go_wp2
                            refine bodyPost_ret (results_list (rs := [.tmp 2, .tmp 3, .tmp 4, .tmp 5, .tmp 6]) rfl (by simp) (.tmp (.tmp (.tmp (.tmp (.tmp .nil)))))) rfl ?_
                            exact ⟨by first | rfl | (simp [errW_none, errW_some] <;> rfl) | (simp [*, errW_none, errW_some] <;> rfl), by repeat (first | (with_reducible first | exact HB.out | apply below_alloc | apply pw_below_drewN | apply below_drew1) | exact HB.out)⟩
            · rw [if_neg c9] at H
              exact absurd H (by simp)
    · rw [if_neg c5] at H
      exact absurd H (by simp)
end Go.Proofs.YtepooaejlofkkaaDoor.ZU
