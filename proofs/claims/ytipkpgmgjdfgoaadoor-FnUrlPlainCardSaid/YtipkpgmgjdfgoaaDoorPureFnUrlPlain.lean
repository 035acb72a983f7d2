/- The pure law of FnUrlPlain: letters, digits and four signs stand as they are in an address (the walk, in ..Up, tells it already). -/
import Derived.Test.YtipkpgmgjdfgoaaDoorUp
namespace Go.Proofs.YtipkpgmgjdfgoaaDoor.Pure
set_option linter.unusedVariables false in
theorem FnUrlPlain (l : List Int) (hm : l.length ≤ maxLen) (hy : l.length * 1 ≤ 140737488351232) (hw : ∀ n ∈ l, (Lit.int .u8 n).wf = true) : X.laws_FnUrlPlain.f l = some true := by
  have hb : X.Byt l := fun x hx => by
    have := hw x hx
    simp only [Lit.wf, Bool.and_eq_true, decide_eq_true_eq] at this
    exact this
  unfold X.laws_FnUrlPlain.f
  rw [if_pos ⟨hb, by omega⟩]
end Go.Proofs.YtipkpgmgjdfgoaaDoor.Pure
