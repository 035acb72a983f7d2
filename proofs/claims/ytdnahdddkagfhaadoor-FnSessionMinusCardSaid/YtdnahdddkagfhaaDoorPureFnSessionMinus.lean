/- The pure law of FnSessionMinus: a compressed number whose first byte has the highest bit is read as the negative one (the walk, in ..Mn, tells it already). -/
import Derived.Test.YtdnahdddkagfhaaDoorMn
namespace Go.Proofs.YtdnahdddkagfhaaDoor.Pure
open Go
theorem FnSessionMinus (n : Int) (wn : (Lit.int .u64 n).wf = true) : X.laws_FnSessionMinus.f n = some true := by
  have hn : 0 ≤ n ∧ n ≤ 18446744073709551615 := by
    simp only [Lit.wf, Bool.and_eq_true, decide_eq_true_eq] at wn
    exact wn
  unfold X.laws_FnSessionMinus.f
  rw [if_pos ⟨hn.1, by omega⟩]
end Go.Proofs.YtdnahdddkagfhaaDoor.Pure
