/- The plain law of FnSessionPut: its walk (..Qe) tells 'true' of all parts. -/
import Derived.Test.YtdnahdddkagfhaaDoorQe
namespace Go.Proofs.YtdnahdddkagfhaaDoor.Pure
open Go
set_option linter.unusedVariables false in
theorem FnSessionPut (l : List X.Ses.SP) (hw : ∀ p ∈ l, p.wf) (b : Bool) (n : Int) (wn : (Lit.int .u8 n).wf = true) : X.laws_FnSessionPut.f l b n = some true := by
  have hn : 0 ≤ n ∧ n ≤ 255 := by
    simp only [Lit.wf, Bool.and_eq_true, decide_eq_true_eq] at wn
    exact wn
  unfold X.laws_FnSessionPut.f
  rw [if_pos ⟨hw, hn.1, hn.2⟩]
end Go.Proofs.YtdnahdddkagfhaaDoor.Pure
