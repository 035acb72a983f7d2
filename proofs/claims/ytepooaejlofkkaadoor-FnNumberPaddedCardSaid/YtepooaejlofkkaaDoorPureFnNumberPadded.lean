/- The pure law of FnNumberPadded. -/
import Derived.Test.YtepooaejlofkkaaDoorZP
namespace Go.Proofs.YtepooaejlofkkaaDoor.Pure
open Go Go.RowKit Go.Proofs.YtepooaejlofkkaaDoor Go.Proofs.YtepooaejlofkkaaDoor.X Go.Proofs.YtepooaejlofkkaaDoor.ZP Go.Proofs.YtepooaejlofkkaaDoorW.PrintWords Go.Proofs.YtepooaejlofkkaaDoorW.PrintLast
set_option linter.unusedVariables false
set_option linter.unusedSimpArgs false
theorem rngP {k : IntKind} {n : Int} (h : (Lit.int k n).wf = true) : k.min ≤ n ∧ n ≤ k.max := by
  simp only [Lit.wf, Bool.and_eq_true, decide_eq_true_eq] at h
  exact h
theorem wrap_idP (v : Int) (h : -9223372036854775808 ≤ v ∧ v < 9223372036854775808) : wrap64 v = v := by unfold wrap64; omega
theorem awakeP : laws_numberAwake.f 60 = some true := by decide +kernel
theorem awakeP_k (k : Nat) (h : 60 ≤ k) : laws_numberAwake.f k = some true := by
  obtain ⟨d, rfl⟩ : ∃ d, k = 60 + d := ⟨k - 60, by omega⟩
  induction d with
  | zero => exact awakeP
  | succ d ih => exact laws_numberAwake.mono (60 + d) true (ih (by omega))
theorem ownP (l : List Int) (h : l.length < 140737488355328) : laws_numberOwn.f l = some l := by
  unfold laws_numberOwn.f
  simp only [Option.bind_some, List.length_nil, Nat.zero_add, List.nil_append, if_pos h]
/-- The law's loop: what is added, and what is compared. -/
theorem l0P (l : List Int) (a1 : Int) (n : Nat) (v : Int) (hl : l.length ≤ 2000) (ha : 0 < a1) (ha1 : a1 ≤ 255) (hv : v % 256 = a1 - (l.length : Int) % a1) (hn : n = a1.toNat - l.length % a1.toNat) (hn1 : n ≤ 255) :
    ∀ (d j k : Nat) (y : List Int), d + j = n → 60 ≤ k → y = l ++ List.replicate j (v % 256) → laws_FnNumberPadded.l0 (k + d + 1) l a1 v y n j = some true := by
  intro d
  induction d with
  | zero =>
    intro j k y hd hk hy
    have hj : j = n := by omega
    subst hj
    rw [laws_FnNumberPadded.l0, if_neg (Int.lt_irrefl _), ownP l (by omega)]
    simp only [Option.bind_some]
    rw [wrap_idP a1 (by omega)]
    have e : impl_Padded.f l a1 = some y := by
      unfold impl_Padded.f
      rw [if_pos ⟨ha, ha1⟩, if_pos hl, ← hn, ← hv, hy]
    rw [e]
    simp only [Option.bind_some]
    have e2 : spec_NumberSame.f y y = some true := by unfold spec_NumberSame.f; rw [beq_self_eq_true]
    rw [e2]
    simp only [Option.bind_some, if_true]
    rw [awakeP_k _ (by omega)]
    rfl
  | succ d ih =>
    intro j k y hd hk hy
    have hyl : y.length = l.length + j := by rw [hy, List.length_append, List.length_replicate]
    rw [show k + (d + 1) + 1 = (k + d + 1) + 1 from by omega, laws_FnNumberPadded.l0, if_pos (by omega), if_pos (by omega), wrap_idP _ (by omega)]
    refine ih (j + 1) k _ (by omega) hk ?_
    rw [hy, List.append_assoc, ← List.replicate_succ']
theorem FnNumberPadded (l : List Int) (hm : l.length ≤ maxLen) (hy : l.length * 1 ≤ 140737488351232) (hw : ∀ x ∈ l, (Lit.int .u8 x).wf = true) (a : Int) (w : (Lit.int .u8 a).wf = true) : ∃ k, laws_FnNumberPadded.f k l a = some true := by
  have h0 : 0 ≤ a ∧ a ≤ 255 := rngP w
  refine ⟨400, ?_⟩
  unfold laws_FnNumberPadded.f
  by_cases h1 : (l.length : Int) > 2147483647
  · rw [if_pos h1]
  · rw [if_neg h1]
    by_cases h2 : (l.length : Int) > 2000
    · rw [if_pos h2, laws_FnNumberPadded.j0, if_pos rfl, awakeP_k _ (by omega)]
      rfl
    · rw [if_neg h2, laws_FnNumberPadded.j0]
      by_cases h3 : a = 0
      · subst h3
        rw [if_pos (by rfl), awakeP_k _ (by omega)]
        rfl
      · have hb : (a == 0) = false := by rw [beq_eq_false_iff_ne]; exact h3
        rw [if_neg (by rw [hb]; exact Bool.false_ne_true), wrap_idP a (by omega), if_neg h3, ownP l (by omega)]
        simp only [Option.bind_some]
        have hmod := Int.emod_nonneg (l.length : Int) h3
        have hmod2 := Int.emod_lt_of_pos (l.length : Int) (show 0 < a by omega)
        rw [wrap_idP (a - (l.length : Int) % a) (by omega)]
        obtain ⟨b, rfl⟩ := Int.eq_ofNat_of_zero_le h0.1
        have hmn := Nat.mod_lt l.length (show 0 < b by omega)
        have hc : (b : Int) - (l.length : Int) % (b : Int) = ((b - l.length % b : Nat) : Int) := by rw [← Int.natCast_emod]; omega
        have := l0P l b (b - l.length % b) ((b : Int) - (l.length : Int) % (b : Int)) (by omega) (by omega) (by omega) (by rw [hc]; omega) rfl (by omega) (b - l.length % b) 0 (398 - (b - l.length % b)) l (by omega) (by omega) (by simp)
        rw [show 398 - (b - l.length % b) + (b - l.length % b) + 1 = 399 from by omega] at this
        rw [hc] at this ⊢
        exact this
end Go.Proofs.YtepooaejlofkkaaDoor.Pure
