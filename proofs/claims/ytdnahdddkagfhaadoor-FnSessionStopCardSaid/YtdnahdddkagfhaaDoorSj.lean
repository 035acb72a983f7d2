/- What reading a part gives. -/
import Derived.Test.YtdnahdddkagfhaaDoorQz
namespace Go.Proofs.YtdnahdddkagfhaaDoor.X
open Go.RowKit Go.Proofs.YtdnahdddkagfhaaDoorW.PrintWords Go.Proofs.YtdnahdddkagfhaaDoorW.PrintMore
attribute [local go_sem] setCell_drewN alloc_drewN
set_option linter.unusedVariables false
set_option linter.unusedSimpArgs false
namespace Ses
/-- A number as a signed one. -/
def toI (n : Int) : Int := IntKind.i64.wrap n
/-- What reading a part gives. -/
def gotOf (p : SP) : Gt :=
  if p.kind % 6 = 2 ∨ p.kind % 6 = 3 then ⟨true, [], [], toI (numOf p.kind p.size p.num)⟩
  else if p.kind % 6 = 4 then ⟨true, p.data, p.other, p.flag⟩
  else ⟨true, p.data, [], 0⟩
end Ses
end Go.Proofs.YtdnahdddkagfhaaDoor.X
