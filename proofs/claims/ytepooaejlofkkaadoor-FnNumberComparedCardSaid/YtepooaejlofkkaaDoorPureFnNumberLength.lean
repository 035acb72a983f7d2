/- The pure law of FnNumberLength: the form of an integer has at most as many bytes as it has pairs of digits, and two more. -/
import Derived.Test.YtepooaejlofkkaaDoorZN
namespace Go.Proofs.YtepooaejlofkkaaDoor.Pure
open Go Go.RowKit Go.Proofs.YtepooaejlofkkaaDoor Go.Proofs.YtepooaejlofkkaaDoor.X Go.Proofs.YtepooaejlofkkaaDoor.ZN Go.Proofs.YtepooaejlofkkaaDoorW.PrintWords Go.Proofs.YtepooaejlofkkaaDoorW.PrintLast Go.Proofs.YtepooaejlofkkaaDoorW.PrintMore
set_option linter.unusedVariables false
set_option linter.unusedSimpArgs false
theorem rng {k : IntKind} {n : Int} (h : (Lit.int k n).wf = true) : k.min ≤ n ∧ n ≤ k.max := by
  simp only [Lit.wf, Bool.and_eq_true, decide_eq_true_eq] at h
  exact h
theorem wrap_id (n : Int) (h : -9223372036854775808 ≤ n ∧ n ≤ 9223372036854775807) : wrap64 n = n := IntWalk.wrap64_in n h
theorem u64_id (n : Int) (h : 0 ≤ n ∧ n ≤ 18446744073709551615) : IntKind.u64.wrap n = n := by rw [IntKind.wrap_u64]; omega
theorem wrap32_id (n : Int) (h : -2147483648 ≤ n ∧ n ≤ 2147483647) : wrap32 n = n := by unfold wrap32; omega

theorem awake : laws_numberAwake.f 60 = some true := by decide +kernel

theorem enc_digit (c : Int) (h0 : 48 ≤ c) (h1 : c ≤ 57) : (Utf8.encode c).size = 1 := by
  have : c = 48 ∨ c = 49 ∨ c = 50 ∨ c = 51 ∨ c = 52 ∨ c = 53 ∨ c = 54 ∨ c = 55 ∨ c = 56 ∨ c = 57 := by omega
  rcases this with rfl | rfl | rfl | rfl | rfl | rfl | rfl | rfl | rfl | rfl <;> rfl

theorem decimal_size (u : Nat) : ∀ (k : Nat) (x : ByteArray), u ≤ 18446744073709551615 → (Lib.decDigits u).length < k → x.size + (Lib.decDigits u).length ≤ 1000 →
    ∃ s, spec_NumberDecimal.l0 k u false x = some s ∧ s.size = x.size + (Lib.decDigits u).length := by
  induction u using Nat.strongRecOn with
  | _ u ih =>
    intro k x hu hk hx
    obtain ⟨k, rfl⟩ : ∃ m, k = m + 1 := ⟨k - 1, by omega⟩
    simp only [spec_NumberDecimal.l0]
    by_cases h : u < 10
    · have hl : (Lib.decDigits u).length = 1 := by rw [Lib.decDigits, dif_pos h]; rfl
      rw [if_neg (by omega), u64_id (48 + (u : Int)) (by omega), wrap32_id _ (by omega)]
      have he := enc_digit (48 + (u : Int)) (by omega) (by omega)
      rw [if_pos (by omega), if_neg (by simp)]
      exact ⟨_, rfl, by rw [ByteArray.size_append]; omega⟩
    · have hl : (Lib.decDigits u).length = (Lib.decDigits (u / 10)).length + 1 := by rw [Lib.decDigits, dif_neg h, List.length_append]; rfl
      have e1 : Int.tmod (u : Int) 10 = ((u % 10 : Nat) : Int) := by rw [Int.tmod_eq_emod_of_nonneg (by omega)]; omega
      have e2 : Int.tdiv (u : Int) 10 = ((u / 10 : Nat) : Int) := by rw [Int.tdiv_eq_ediv_of_nonneg (by omega)]; omega
      rw [if_pos (by omega), e1, e2, u64_id (48 + ((u % 10 : Nat) : Int)) (by omega), wrap32_id _ (by omega), u64_id ((u / 10 : Nat) : Int) (by omega)]
      have he := enc_digit (48 + ((u % 10 : Nat) : Int)) (by omega) (by omega)
      rw [if_pos (by omega)]
      obtain ⟨s, hs, hz⟩ := ih (u / 10) (by omega) k (Utf8.encode (48 + ((u % 10 : Nat) : Int)) ++ x) (by omega) (by omega) (by rw [ByteArray.size_append]; omega)
      exact ⟨s, hs, by rw [hz, ByteArray.size_append]; omega⟩

theorem toNum_length (l : List Int) (neg : Bool) (e : Int) : 1 ≤ (toNum l neg e).length ∧ (toNum l neg e).length ≤ l.length / 2 + 3 := by
  unfold toNum
  split
  · simp
  · have he : (evened l e).length ≤ l.length + 1 := by unfold evened; split <;> simp
    have hp := pairs_length neg (evened l e)
    simp only [List.length_cons, List.length_append]
    split <;> simp only [List.length_cons, List.length_nil] <;> omega

theorem FnNumberLength (a0 : Int) (w0 : (Lit.int .i64 a0).wf = true) : ∃ k, laws_FnNumberLength.f k a0 = some true := by
  have hr : -9223372036854775808 ≤ a0 ∧ a0 ≤ 9223372036854775807 := rng w0
  refine ⟨60, ?_⟩
  have hd := dg_le a0 hr.1 hr.2
  have hdl : (dg a0).length = (Lib.decDigits a0.natAbs).length := by unfold dg; rw [List.length_map]
  have ht : (trimZ (dg a0)).length ≤ (dg a0).length := by unfold trimZ; rw [List.length_take]; omega
  have hL := toNum_length (trimZ (dg a0)) (decide (a0 < 0)) ((dg a0).length - 1)
  have hN : impl_NumberOfInt64.f a0 = some (toNum (trimZ (dg a0)) (decide (a0 < 0)) ((dg a0).length - 1)) := by
    unfold impl_NumberOfInt64.f converters_EncodeInt64.f
    rw [if_pos hr]
    rfl
  unfold laws_FnNumberLength.f
  rw [hN]
  simp only [Option.bind_some]
  generalize toNum (trimZ (dg a0)) (decide (a0 < 0)) ((dg a0).length - 1) = b at *
  have hdec : ∀ z : Int, z = (a0.natAbs : Int) → ∃ s, spec_NumberDecimal.f 60 z false = some s ∧ s.size = (dg a0).length := by
    intro z hz
    obtain ⟨s, hs, hsz⟩ := decimal_size a0.natAbs 60 ⟨#[]⟩ (by omega) (by omega) (by rw [ba_size_mk]; simp; omega)
    refine ⟨s, ?_, ?_⟩
    · unfold spec_NumberDecimal.f; rw [hz]; exact hs
    · rw [hsz, ba_size_mk]; simp [hdl]
  by_cases hn : a0 < 0
  · rw [if_pos hn]
    obtain ⟨s, hs, hsz⟩ := hdec (IntKind.u64.wrap (-(IntKind.u64.wrap a0))) (by rw [IntKind.wrap_u64, IntKind.wrap_u64]; omega)
    rw [hs]
    simp only [Option.bind_some]
    rw [wrap_id ((s.size : Int) / 2) (by omega), wrap_id ((s.size : Int) / 2 + 1) (by omega), wrap_id _ (by omega), if_pos (by omega), if_pos (by omega), awake]
    rfl
  · rw [if_neg hn]
    obtain ⟨s, hs, hsz⟩ := hdec (IntKind.u64.wrap a0) (by rw [IntKind.wrap_u64]; omega)
    rw [hs]
    simp only [Option.bind_some]
    rw [wrap_id ((s.size : Int) / 2) (by omega), wrap_id ((s.size : Int) / 2 + 1) (by omega), wrap_id _ (by omega), if_pos (by omega), if_pos (by omega), awake]
    rfl
end Go.Proofs.YtepooaejlofkkaaDoor.Pure
