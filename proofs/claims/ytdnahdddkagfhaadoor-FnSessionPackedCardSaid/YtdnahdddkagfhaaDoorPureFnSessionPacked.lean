/- The plain law of FnSessionPacked: its walk (..Px) tells 'true' of every two numbers. -/
import Derived.Test.YtdnahdddkagfhaaDoorPx
namespace Go.Proofs.YtdnahdddkagfhaaDoor.Pure
open Go
theorem FnSessionPacked (a : Int) (wa : (Lit.int .u64 a).wf = true) (b : Int) (wb : (Lit.int .u64 b).wf = true) : X.laws_FnSessionPacked.f a b = some true := by
  have ha : 0 ≤ a ∧ a ≤ 18446744073709551615 := by
    simp only [Lit.wf, Bool.and_eq_true, decide_eq_true_eq] at wa
    exact wa
  have hb : 0 ≤ b ∧ b ≤ 18446744073709551615 := by
    simp only [Lit.wf, Bool.and_eq_true, decide_eq_true_eq] at wb
    exact wb
  unfold X.laws_FnSessionPacked.f
  rw [if_pos ⟨ha.1, by omega, hb.1, by omega⟩]
end Go.Proofs.YtdnahdddkagfhaaDoor.Pure
