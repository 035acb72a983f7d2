/- The pure law of FnUrlClean: an address has neither blanks nor signs beyond ASCII (the walk, in ..Uc, tells it already). -/
import Derived.Test.YtipkpgmgjdfgoaaDoorUc
namespace Go.Proofs.YtipkpgmgjdfgoaaDoor.Pure
theorem FnUrlClean (a0 : ByteArray) (w0 : a0.size ≤ 140737488351232) (a1 : ByteArray) (w1 : a1.size ≤ 140737488351232) (a2 : ByteArray) (w2 : a2.size ≤ 140737488351232) : X.laws_FnUrlClean.f a0 a1 a2 = some true := by
  unfold X.laws_FnUrlClean.f
  rw [if_pos ⟨w0, w1, w2⟩]
end Go.Proofs.YtipkpgmgjdfgoaaDoor.Pure
