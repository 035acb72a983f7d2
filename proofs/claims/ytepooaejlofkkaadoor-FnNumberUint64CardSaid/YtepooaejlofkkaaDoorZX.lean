-- Written by a program of this session (wip/xprint.py), which calls the kit's print.
import Derived.Test.YtepooaejlofkkaaDoorZX0
import Derived.Test.YtepooaejlofkkaaDoorZX1
namespace Go.Proofs.YtepooaejlofkkaaDoor.ZX
open Go.RowKit Go.Proofs.YtepooaejlofkkaaDoor.X Go.Proofs.YtepooaejlofkkaaDoorW.PrintWords Go.Proofs.YtepooaejlofkkaaDoorW.PrintLast Go.Proofs.YtepooaejlofkkaaDoorW.PrintMore
attribute [local go_sem] max2_int min2_int max_two min_two max_three min_three max_four min_four   -- for this text's walks alone
set_option linter.unusedVariables false
set_option linter.unusedSimpArgs false

end Go.Proofs.YtepooaejlofkkaaDoor.ZX
