/- The plain law of FnSessionStop: its walk (..St) tells 'true' of all parts and asks. -/
import Derived.Test.YtdnahdddkagfhaaDoorSt
namespace Go.Proofs.YtdnahdddkagfhaaDoor.Pure
open Go
set_option linter.unusedVariables false in
theorem FnSessionStop (l : List X.Ses.SP) (hw : ∀ p ∈ l, p.wf) (b : Bool) (m : Int) (wm : (Lit.int .u16 m).wf = true) (a : List X.Ses.SA) (ha : ∀ p ∈ a, p.wf) : X.laws_FnSessionStop.f l b m a = some true := by
  have hm : 0 ≤ m ∧ m ≤ 65535 := by
    simp only [Lit.wf, Bool.and_eq_true, decide_eq_true_eq] at wm
    exact wm
  unfold X.laws_FnSessionStop.f
  rw [if_pos ⟨hw, hm.1, hm.2, ha⟩]
end Go.Proofs.YtdnahdddkagfhaaDoor.Pure
