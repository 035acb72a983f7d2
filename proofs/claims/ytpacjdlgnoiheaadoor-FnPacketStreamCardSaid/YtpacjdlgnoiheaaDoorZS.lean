-- Written by a program of this session (wip/xprint.py), which calls the kit's print.
import Derived.Test.YtpacjdlgnoiheaaDoorZS0
import Derived.Test.YtpacjdlgnoiheaaDoorZS1
namespace Go.Proofs.YtpacjdlgnoiheaaDoor.ZS
open Go.RowKit Go.Proofs.YtpacjdlgnoiheaaDoor.X Go.Proofs.YtpacjdlgnoiheaaDoorW.PrintWords Go.Proofs.YtpacjdlgnoiheaaDoorW.PrintLast Go.Proofs.YtpacjdlgnoiheaaDoorW.PrintMore
attribute [local go_sem] max2_int min2_int max_two min_two max_three min_three max_four min_four   -- for this text's walks alone
set_option linter.unusedVariables false
set_option linter.unusedSimpArgs false

end Go.Proofs.YtpacjdlgnoiheaaDoor.ZS
