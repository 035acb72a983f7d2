/- The plain law of FnSessionApart: its walk (..An) tells 'true' of all parts. -/
import Derived.Test.YtdnahdddkagfhaaDoorAn
namespace Go.Proofs.YtdnahdddkagfhaaDoor.Pure
open Go
set_option linter.unusedVariables false in
theorem FnSessionApart (l : List X.Ses.SP) (hw : ∀ p ∈ l, p.wf) (n : Int) (wn : (Lit.int .u8 n).wf = true) (o : X.Ses.SP) (ho : o.wf) (b : Bool) : X.laws_FnSessionApart.f l n o b = some true := by
  have hn : 0 ≤ n ∧ n ≤ 255 := by
    simp only [Lit.wf, Bool.and_eq_true, decide_eq_true_eq] at wn
    exact wn
  unfold X.laws_FnSessionApart.f
  rw [if_pos ⟨hw, ho, hn.1, hn.2⟩]
end Go.Proofs.YtdnahdddkagfhaaDoor.Pure
