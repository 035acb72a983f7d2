-- Written by a program of this session (wip/xprint.py), which calls the kit's print.
import Derived.Test.YtpacjdlgnoiheaaDoorZM0
import Derived.Test.YtpacjdlgnoiheaaDoorPw
import Derived.Test.YtpacjdlgnoiheaaDoorPn
namespace Go.Proofs.YtpacjdlgnoiheaaDoor.ZM
open Go.RowKit Go.Proofs.YtpacjdlgnoiheaaDoor.X Go.Proofs.YtpacjdlgnoiheaaDoorW.PrintWords Go.Proofs.YtpacjdlgnoiheaaDoorW.PrintLast Go.Proofs.YtpacjdlgnoiheaaDoorW.PrintMore
attribute [local go_sem] max2_int min2_int max_two min_two max_three min_three max_four min_four   -- for this text's walks alone
set_option linter.unusedVariables false
set_option linter.unusedSimpArgs false

-- GIVEN: function 9 (laws_packetAwake)

-- GIVEN: function 12 (bytes_Clone)

-- GIVEN: function 21 (impl_MarkerBytes)

-- GIVEN: function 22 (impl_MarkerRead)

end Go.Proofs.YtpacjdlgnoiheaaDoor.ZM
