-- Written by a program of this session (wip/xprint.py), which calls the kit's print.
import Derived.Test.YtipkpgmgjdfgoaaDoorProg
import Derived.Test.YtipkpgmgjdfgoaaDoorKit
import Derived.Below
import Derived.Deep.Draws
import Derived.Deep.AppendLies
import Derived.Maps.AppendAt
import Derived.OwnWalk
import Derived.Laws.BytesArg
import Derived.Laws.MakeOwn
import Derived.Laws.OwnMore
import Derived.Deep.OwnRows
import Derived.Tactics
import Derived.Lib.ConvBytes
import Derived.Laws.Slices
import Derived.WalkKit
import Derived.KernelRfl
import Derived.RowKit3
import Derived.Deep.LoopGhost
import Derived.Deep.QuietTactic
import Derived.BigQuiet
import Derived.WideLaws
import Derived.Deep.DeepCutAuto
import Derived.Deep.CutBlock
import Derived.Deep.RegionHeld3
import Derived.Laws.Rows
import Derived.Lib.AppendStr
import Derived.ArgAppend
import Derived.Laws.IdiomCopy
import Derived.OrdersHeld
import Derived.Laws.BitsLemmas
import Derived.RowKit
import Derived.Laws.Runes
import Derived.Test.YtipkpgmgjdfgoaaDoorWWords
import Derived.Test.YtipkpgmgjdfgoaaDoorWLast
import Derived.Test.YtipkpgmgjdfgoaaDoorWTab
import Derived.Test.YtipkpgmgjdfgoaaDoorWFour
import Derived.Test.YtipkpgmgjdfgoaaDoorWQPut
import Derived.Test.YtipkpgmgjdfgoaaDoorWApart
import Derived.Test.YtipkpgmgjdfgoaaDoorWArr
import Derived.Test.YtipkpgmgjdfgoaaDoorWZeros
import Derived.Test.YtipkpgmgjdfgoaaDoorWFoot
import Derived.Test.YtipkpgmgjdfgoaaDoorWKept
import Derived.Test.YtipkpgmgjdfgoaaDoorWShare
import Derived.Test.YtipkpgmgjdfgoaaDoorWN
import Derived.Test.YtipkpgmgjdfgoaaDoorWFootNe
import Derived.Test.YtipkpgmgjdfgoaaDoorWAt
import Derived.Test.YtipkpgmgjdfgoaaDoorWEqStruct
import Derived.Test.YtipkpgmgjdfgoaaDoorWRepsOne
import Derived.Test.YtipkpgmgjdfgoaaDoorWInv
import Derived.Test.YtipkpgmgjdfgoaaDoorWInvWords
import Derived.Test.YtipkpgmgjdfgoaaDoorWGuard
import Derived.Test.YtipkpgmgjdfgoaaDoorWNEv
import Derived.Test.YtipkpgmgjdfgoaaDoorWMore
namespace Go.Proofs.YtipkpgmgjdfgoaaDoor.ZU
open Go.RowKit Go.Proofs.YtipkpgmgjdfgoaaDoor.X Go.Proofs.YtipkpgmgjdfgoaaDoorW.PrintWords Go.Proofs.YtipkpgmgjdfgoaaDoorW.PrintLast Go.Proofs.YtipkpgmgjdfgoaaDoorW.PrintMore
attribute [local go_sem] max2_int min2_int max_two min_two max_three min_three max_four min_four   -- for this text's walks alone
set_option linter.unusedVariables false
set_option linter.unusedSimpArgs false



def errW : Option Int → Value
  | none => .nilIface
  | some c => .iface 0 (.int .i64 c)
theorem errW_none : errW none = .nilIface := rfl
theorem errW_some (c : Int) : errW (some c) = .iface 0 (.int .i64 c) := rfl

theorem info9 : (Tryd.prog.info? 9).map (fun i => (i.zero, i.size, i.bytes)) = some (some (.string ⟨#[]⟩), 1, 16) := by kernel_rfl
-- the values' own types

end Go.Proofs.YtipkpgmgjdfgoaaDoor.ZU
