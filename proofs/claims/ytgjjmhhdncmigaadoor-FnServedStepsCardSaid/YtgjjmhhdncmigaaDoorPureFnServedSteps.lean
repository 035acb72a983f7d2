/- The plain law of FnServedSteps: its walk (..Vg) tells 'true' of all steps. -/
import Derived.Test.YtgjjmhhdncmigaaDoorVg
namespace Go.Proofs.YtgjjmhhdncmigaaDoor.Pure
open Go
set_option linter.unusedVariables false in
theorem FnServedSteps (l : List X.Sv.Stp) (hw : ∀ p ∈ l, True) : X.laws_FnServedSteps.f l = some true := rfl
end Go.Proofs.YtgjjmhhdncmigaaDoor.Pure
