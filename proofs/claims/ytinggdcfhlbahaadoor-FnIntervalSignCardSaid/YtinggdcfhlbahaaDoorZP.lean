-- Written by a program of this session (wip/xprint.py), which calls the kit's print.
import Derived.Test.YtinggdcfhlbahaaDoorZP0
import Derived.Test.YtinggdcfhlbahaaDoorZP1
import Derived.Test.YtinggdcfhlbahaaDoorZP2
import Derived.Test.YtinggdcfhlbahaaDoorZP3
import Derived.Test.YtinggdcfhlbahaaDoorZP4
namespace Go.Proofs.YtinggdcfhlbahaaDoor.ZP
open Go.RowKit Go.Proofs.YtinggdcfhlbahaaDoor.X Go.Proofs.YtinggdcfhlbahaaDoorW.PrintWords Go.Proofs.YtinggdcfhlbahaaDoorW.PrintLast Go.Proofs.YtinggdcfhlbahaaDoorW.PrintMore
attribute [local go_sem] max2_int min2_int max_two min_two max_three min_three max_four min_four   -- for this text's walks alone
set_option linter.unusedVariables false
set_option linter.unusedSimpArgs false

end Go.Proofs.YtinggdcfhlbahaaDoor.ZP
