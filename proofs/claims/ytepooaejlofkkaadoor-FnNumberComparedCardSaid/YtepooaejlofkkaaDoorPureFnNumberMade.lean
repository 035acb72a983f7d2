/- The pure law of FnNumberMade. -/
import Derived.Test.YtepooaejlofkkaaDoorPureMade
namespace Go.Proofs.YtepooaejlofkkaaDoor.Pure
open Go Go.RowKit Go.Proofs.YtepooaejlofkkaaDoor Go.Proofs.YtepooaejlofkkaaDoor.X Go.Proofs.YtepooaejlofkkaaDoor.ZN Go.Proofs.YtepooaejlofkkaaDoorW.PrintWords Go.Proofs.YtepooaejlofkkaaDoorW.PrintLast Go.Proofs.YtepooaejlofkkaaDoorW.PrintMore
set_option linter.unusedVariables false
set_option linter.unusedSimpArgs false

theorem byt_of {l : List Int} (hw : ∀ x ∈ l, (Lit.int .u8 x).wf = true) : Byt l := fun x hx => rng (hw x hx)
theorem awake_k (k : Nat) (h : 60 ≤ k) : laws_numberAwake.f k = some true := by
  obtain ⟨d, rfl⟩ : ∃ d, k = 60 + d := ⟨k - 60, by omega⟩
  induction d with
  | zero => exact awake
  | succ d ih => exact laws_numberAwake.mono (60 + d) true (ih (by omega))
theorem tmod_rng (a m : Int) (hm : 0 < m) (h : -128 ≤ a ∧ a ≤ 127) (hm2 : m ≤ 100) : -100 ≤ Int.tmod a m ∧ Int.tmod a m ≤ 100 := by
  by_cases h0 : 0 ≤ a
  · rw [Int.tmod_eq_emod_of_nonneg h0]
    have := Int.emod_lt_of_pos a hm
    have := Int.emod_nonneg a (show m ≠ 0 by omega)
    omega
  · have e : a = -(-a) := by omega
    rw [e, Int.neg_tmod, Int.tmod_eq_emod_of_nonneg (by omega)]
    have := Int.emod_lt_of_pos (-a) hm
    have := Int.emod_nonneg (-a) (show m ≠ 0 by omega)
    omega

theorem FnNumberMade (l : List Int) (hm : l.length ≤ maxLen) (hy : l.length * 1 ≤ 140737488351232) (hw : ∀ x ∈ l, (Lit.int .u8 x).wf = true) (a1 : Bool) (a2 : Int) (w2 : (Lit.int .i8 a2).wf = true) :
    ∃ k, laws_FnNumberMade.f k l a1 a2 = some true := by
  have hb := byt_of hw
  have h2 : -128 ≤ a2 ∧ a2 ≤ 127 := rng w2
  refine ⟨l.length + 100, ?_⟩
  unfold laws_FnNumberMade.f
  by_cases hl : (l.length : Int) > 2147483647
  · rw [if_pos hl]
  · rw [if_neg hl]
    obtain ⟨D, hD, hN⟩ := digits_ex l hb (by omega) (l.length + 100) (by omega)
    rw [hD]
    simp only [Option.bind_some]
    have hA := awake_k (l.length + 100) (by omega)
    by_cases h0 : (D.length : Int) = 0
    · rw [if_pos h0]
      have e : impl_NumberMade.f [] false 0 = some [128] := by
        have := made_f [] (by simp) false 0 (by omega)
        exact this
      rw [e]
      simp only [Option.bind_some]
      have e2 : spec_NumberSame.f [128] [128] = some true := by unfold spec_NumberSame.f; rw [beq_self_eq_true]
      rw [e2]
      simp only [Option.bind_some, if_true]
      rw [hA]
      rfl
    · rw [if_neg h0]
      have hr := tmod_rng a2 61 (by omega) h2 (by omega)
      have hlen := hN.len
      rw [letters_f D hN.digs (by omega) _ (by omega)]
      simp only [Option.bind_some]
      rw [wrap_id (Int.tmod a2 61) (by omega), made_f D hlen a1 _ hr]
      simp only [Option.bind_some]
      rw [bytes_f D hN.digs hlen (by omega) a1 _ hr _ (by omega), toNum_lets D hN.digs hlen (by omega) a1 _ hr]
      simp only [Option.bind_some]
      have e2 : ∀ x, spec_NumberSame.f x x = some true := fun x => by unfold spec_NumberSame.f; rw [beq_self_eq_true]
      rw [e2]
      simp only [Option.bind_some, if_true]
      rw [hA]
      rfl
end Go.Proofs.YtepooaejlofkkaaDoor.Pure
