-- Written by a program of this session (wip/xprint.py), which calls the kit's print.
import Derived.Test.YtpacjdlgnoiheaaDoorZV0
import Derived.Test.YtpacjdlgnoiheaaDoorPv
import Derived.Test.YtpacjdlgnoiheaaDoorPn
import Derived.Test.YtpacjdlgnoiheaaDoorPw
import Derived.Test.YtpacjdlgnoiheaaDoorPs
namespace Go.Proofs.YtpacjdlgnoiheaaDoor.ZV
open Go.RowKit Go.Proofs.YtpacjdlgnoiheaaDoor.X Go.Proofs.YtpacjdlgnoiheaaDoorW.PrintWords Go.Proofs.YtpacjdlgnoiheaaDoorW.PrintLast Go.Proofs.YtpacjdlgnoiheaaDoorW.PrintMore
attribute [local go_sem] max2_int min2_int max_two min_two max_three min_three max_four min_four   -- for this text's walks alone
set_option linter.unusedVariables false
set_option linter.unusedSimpArgs false

theorem eqA28 (d : Nat) (w : World) (x0 y0 : Int) (x1 y1 : Int) (x2 y2 : Int) (x3 y3 : Int) :
    (Op.equalIn (d + 2) 28 (.agg #[.int .u32 x0, .int .u8 x1, .int .u8 x2, .int .u16 x3]) (.agg #[.int .u32 y0, .int .u8 y1, .int .u8 y2, .int .u16 y3])).run Tryd.prog w = .ok (x0 == y0 && (x1 == y1 && (x2 == y2 && (x3 == y3)))) w := by
  refine eqA_of Tryd.underlying28 (by kernel_rfl) ?_
  refine eqf_cons (by rfl) (by go_simp; rfl) (by go_simp; rfl) (by go_simp) ?_
  refine eqf_cons (by rfl) (by go_simp; rfl) (by go_simp; rfl) (by go_simp) ?_
  refine eqf_cons (by rfl) (by go_simp; rfl) (by go_simp; rfl) (by go_simp) ?_
  exact eqf_last (by rfl) (by go_simp; rfl) (by go_simp; rfl) (by go_simp)
end Go.Proofs.YtpacjdlgnoiheaaDoor.ZV
