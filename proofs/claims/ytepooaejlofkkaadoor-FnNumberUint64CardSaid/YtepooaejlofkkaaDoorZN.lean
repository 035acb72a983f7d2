-- Written by a program of this session (wip/xprint.py), which calls the kit's print.
import Derived.Test.YtepooaejlofkkaaDoorZN0
import Derived.Test.YtepooaejlofkkaaDoorZN1
import Derived.Test.YtepooaejlofkkaaDoorZN2
import Derived.Test.YtepooaejlofkkaaDoorZN3
import Derived.Test.YtepooaejlofkkaaDoorZN4
import Derived.Test.YtepooaejlofkkaaDoorZN5
import Derived.Test.YtepooaejlofkkaaDoorZN6
import Derived.Test.YtepooaejlofkkaaDoorZN7
namespace Go.Proofs.YtepooaejlofkkaaDoor.ZN
open Go.RowKit Go.Proofs.YtepooaejlofkkaaDoor.X Go.Proofs.YtepooaejlofkkaaDoorW.PrintWords Go.Proofs.YtepooaejlofkkaaDoorW.PrintLast Go.Proofs.YtepooaejlofkkaaDoorW.PrintMore
attribute [local go_sem] max2_int min2_int max_two min_two max_three min_three max_four min_four   -- for this text's walks alone
set_option linter.unusedVariables false
set_option linter.unusedSimpArgs false

end Go.Proofs.YtepooaejlofkkaaDoor.ZN
