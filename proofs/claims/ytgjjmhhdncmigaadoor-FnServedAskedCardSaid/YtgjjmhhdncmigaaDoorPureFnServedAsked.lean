/- The plain law of FnServedAsked: its walk (..Vh) tells 'true' of all steps. -/
import Derived.Test.YtgjjmhhdncmigaaDoorVh
namespace Go.Proofs.YtgjjmhhdncmigaaDoor.Pure
open Go
set_option linter.unusedVariables false in
theorem FnServedAsked (l : List X.Sv.Stp) (hw : ∀ p ∈ l, True) : X.laws_FnServedAsked.f l = some true := rfl
end Go.Proofs.YtgjjmhhdncmigaaDoor.Pure
