-- Written by a program of this session (wip/xprint.py), which calls the kit's print.
import Derived.Test.YtipkpgmgjdfgoaaDoorZU0
import Derived.Test.YtipkpgmgjdfgoaaDoorZU1
import Derived.Test.YtipkpgmgjdfgoaaDoorZU2
namespace Go.Proofs.YtipkpgmgjdfgoaaDoor.ZU
open Go.RowKit Go.Proofs.YtipkpgmgjdfgoaaDoor.X Go.Proofs.YtipkpgmgjdfgoaaDoorW.PrintWords Go.Proofs.YtipkpgmgjdfgoaaDoorW.PrintLast Go.Proofs.YtipkpgmgjdfgoaaDoorW.PrintMore
attribute [local go_sem] max2_int min2_int max_two min_two max_three min_three max_four min_four   -- for this text's walks alone
set_option linter.unusedVariables false
set_option linter.unusedSimpArgs false

end Go.Proofs.YtipkpgmgjdfgoaaDoor.ZU
