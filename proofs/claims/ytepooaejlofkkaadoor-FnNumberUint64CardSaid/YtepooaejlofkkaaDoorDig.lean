/- converters.addDigitToMantissa: ten times the number and a digit, or that it is too great. -/
import Derived.Test.YtepooaejlofkkaaDoorShelf
import Derived.Test.YtepooaejlofkkaaDoorCl
import Derived.Shelf.Spec.BitsCarry
import Derived.Laws.Externs
namespace Go.Proofs.YtepooaejlofkkaaDoor.X
open Go.RowKit Go.Proofs.YtepooaejlofkkaaDoorW.PrintWords Go.Proofs.YtepooaejlofkkaaDoorW.PrintLast Go.Proofs.YtepooaejlofkkaaDoorW.PrintMore
set_option linter.unusedVariables false
set_option linter.unusedSimpArgs false

theorem add64x (x y : Int) (hx : 0 ≤ x) (hy : 0 ≤ y) (w : World) : (callFunc 51 #[.int .u64 x, .int .u64 y, .int .u64 0]).run Tryd.prog w =
    .ok (.value (.tuple #[.int .u64 ((x + y) % 18446744073709551616), .int .u64 ((x + y) / 18446744073709551616)])) w := by
  obtain ⟨x, rfl⟩ := Int.eq_ofNat_of_zero_le hx
  obtain ⟨y, rfl⟩ := Int.eq_ofNat_of_zero_le hy
  rw [run_callFunc_extern Tryd.func51 (by kernel_rfl) (by kernel_rfl) (by kernel_rfl) (e := add64Entry) (by kernel_rfl), run_add64 x y 0 (by omega) (by omega) (by omega) (by omega)]
  simp only [Result.andThen]
  congr 5 <;> omega
def mantF (m d : Int) : Int × Bool := if m * 10 + d < 18446744073709551616 then (m * 10 + d, false) else (m, true)
def converters_addDigitToMantissa.f (a0 a1 : Int) : Option (Int × Bool) := if 0 ≤ a0 ∧ a0 < 18446744073709551616 then (if 0 ≤ a1 ∧ a1 ≤ 255 then some (mantF a0 a1) else none) else none
theorem mul64x (m hi lo : Int) (h0 : 0 ≤ m) (h1 : m < 18446744073709551616) (eh : hi = m * 10 / 18446744073709551616) (el : lo = m * 10 % 18446744073709551616) (w : World) :
    Calls Tryd.prog 50 #[.int .u64 m, .int .u64 10] w fun e w' => e = .returned (.tuple #[.int .u64 hi, .int .u64 lo]) ∧ w = w' := by
  obtain ⟨m, rfl⟩ := Int.eq_ofNat_of_zero_le h0
  refine (Tryd.bits_Mul64 m 10 (by omega) (by omega) w).mono ?_
  rintro e w' ⟨rfl, rfl⟩
  subst eh; subst el
  exact ⟨by congr 3, rfl⟩
def Dig (m d : Int) (w : World) (e : Ending) (w' : World) : Prop := e = .returned (.tuple #[.int .u64 (mantF m d).1, .bool (mantF m d).2]) ∧ w' = w
theorem dig_zero (d : Int) (w : World) (hd0 : 0 ≤ d) (hd1 : d ≤ 255) : Calls Tryd.prog 44 #[.int .u64 0, .int .u8 d] w (Dig 0 d w) := by
  have HA := fun W => add64x 0 d (Int.le_refl 0) hd0 W
  have e1 : (0 + d) % 18446744073709551616 = d := by omega
  have e2 : (0 + d) / 18446744073709551616 = 0 := by omega
  rw [e1, e2] at HA
  have HM := Lib.hid (show mantF 0 d = (d, false) by unfold mantF; rw [if_pos (by omega)]; simp)
  clear e1 e2
  go_enter Tryd.func44, Tryd.ntmps44
  go_wp2
  go_ret2
  unfold Dig
  rw [HM.out]
  exact ⟨rfl, rfl⟩
theorem dig_over (m hi lo d : Int) (w : World) (hm : (m != 0) = true) (hh : (hi != 0) = true) (C : ∀ W, Calls Tryd.prog 50 #[.int .u64 m, .int .u64 10] W fun e w' => e = .returned (.tuple #[.int .u64 hi, .int .u64 lo]) ∧ W = w')
    (HM : Hid (mantF m d = (m, true))) : Calls Tryd.prog 44 #[.int .u64 m, .int .u8 d] w (Dig m d w) := by
  have C' := Lib.hid C
  clear C
  go_enter Tryd.func44, Tryd.ntmps44
  go_wp2_with (go_at_call 50; refine (C'.out _).mono ?_; rintro e w' ⟨rfl, rfl⟩)
  go_ret2
  unfold Dig
  rw [HM.out]
  exact ⟨rfl, rfl⟩
theorem dig_add (m lo d s cy : Int) (w : World) (hd0 : 0 ≤ d) (hd1 : d ≤ 255) (hm : (m != 0) = true) (C : ∀ W, Calls Tryd.prog 50 #[.int .u64 m, .int .u64 10] W fun e w' => e = .returned (.tuple #[.int .u64 0, .int .u64 lo]) ∧ W = w')
    (HA : ∀ W, (callFunc 51 #[.int .u64 lo, .int .u64 d, .int .u64 0]).run Tryd.prog W = .ok (.value (.tuple #[.int .u64 s, .int .u64 cy])) W)
    (HM : Hid (((cy != 0) = false ∧ mantF m d = (s, false)) ∨ ((cy != 0) = true ∧ mantF m d = (m, true)))) : Calls Tryd.prog 44 #[.int .u64 m, .int .u8 d] w (Dig m d w) := by
  have C' := Lib.hid C
  clear C
  rcases HM.out with ⟨hc, hM⟩ | ⟨hc, hM⟩
  all_goals
    have HM' := Lib.hid hM
    clear hM HM
    go_enter Tryd.func44, Tryd.ntmps44
    go_wp2_with (go_at_call 50; refine (C'.out _).mono ?_; rintro e w' ⟨rfl, rfl⟩)
    go_ret2
    unfold Dig
    rw [HM'.out]
    exact ⟨rfl, rfl⟩
theorem converters_addDigitToMantissa.calls (a0 a1 : Int) (r1 : Int) (r2 : Bool) (w : World) (h : converters_addDigitToMantissa.f a0 a1 = some (r1, r2)) :
    Calls Tryd.prog 44 #[.int .u64 a0, .int .u8 a1] w fun e w' => e = .returned (.tuple #[.int .u64 r1, .bool r2]) ∧ Drawn0 w w' := by
  have key : Calls Tryd.prog 44 #[.int .u64 a0, .int .u8 a1] w (Dig a0 a1 w) := by
    unfold converters_addDigitToMantissa.f at h
    split at h
    · rename_i h1
      split at h
      · rename_i h2
        by_cases hz : a0 = 0
        · subst hz
          exact dig_zero a1 w h2.1 h2.2
        · have hm : (a0 != 0) = true := by simp [hz]
          obtain ⟨hi, ehi⟩ : ∃ hi, hi = a0 * 10 / 18446744073709551616 := ⟨_, rfl⟩
          obtain ⟨lo, elo⟩ : ∃ lo, lo = a0 * 10 % 18446744073709551616 := ⟨_, rfl⟩
          have C := fun W => mul64x a0 hi lo h1.1 h1.2 ehi elo W
          by_cases ho : a0 * 10 < 18446744073709551616
          · have e0 : hi = 0 := by omega
            have el : lo = a0 * 10 := by omega
            subst e0
            refine dig_add a0 lo a1 _ _ w h2.1 h2.2 hm C (fun W => add64x lo a1 (by omega) h2.1 W) (Lib.hid ?_)
            by_cases hs : a0 * 10 + a1 < 18446744073709551616
            · left
              refine ⟨?_, ?_⟩
              · rw [bne_eq_false_iff_eq]; omega
              · unfold mantF; rw [if_pos hs]; congr 1; omega
            · right
              refine ⟨?_, ?_⟩
              · rw [bne_iff_ne]; omega
              · unfold mantF; rw [if_neg hs]
          · refine dig_over a0 hi lo a1 w hm (by rw [bne_iff_ne]; omega) C (Lib.hid ?_)
            unfold mantF
            rw [if_neg (by omega)]
      · cases h
    · cases h
  refine key.mono ?_
  rintro e w' ⟨rfl, rfl⟩
  unfold converters_addDigitToMantissa.f at h
  split at h
  · split at h
    · have e := Option.some.inj h
      rw [e]
      exact ⟨rfl, Drawn0.refl _⟩
    · cases h
  · cases h
end Go.Proofs.YtepooaejlofkkaaDoor.X
