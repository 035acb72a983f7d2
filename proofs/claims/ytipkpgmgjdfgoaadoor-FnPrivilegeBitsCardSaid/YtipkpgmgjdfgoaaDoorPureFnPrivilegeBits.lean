/- The pure law of FnPrivilegeBits: each privilege is one bit, and all of them are different (the walk, in ..Pb, tells it already). -/
import Derived.Test.YtipkpgmgjdfgoaaDoorPb
namespace Go.Proofs.YtipkpgmgjdfgoaaDoor.Pure
theorem FnPrivilegeBits (a : Int) (w : (Lit.int .u16 a).wf = true) : X.laws_FnPrivilegeBits.f a = some true := by
  have h : 0 ≤ a ∧ a ≤ 65535 := by
    simp only [Lit.wf, Bool.and_eq_true, decide_eq_true_eq] at w
    exact w
  unfold X.laws_FnPrivilegeBits.f
  rw [if_pos h]
end Go.Proofs.YtipkpgmgjdfgoaaDoor.Pure
