/- The pure law of FnSessionNone: the bytes 0, 253 and 255 are no CLR and no fixed one (the walk, in ..Nn, tells it already). -/
import Derived.Test.YtdnahdddkagfhaaDoorNn
namespace Go.Proofs.YtdnahdddkagfhaaDoor.Pure
open Go
set_option linter.unusedVariables false in
theorem FnSessionNone (k : Int) (wk : (Lit.int .u8 k).wf = true) (fixed : Bool) (l : List Int) (hm : l.length ≤ maxLen) (hy : l.length * 1 ≤ 140737488351232) (hw : ∀ n ∈ l, (Lit.int .u8 n).wf = true) : X.laws_FnSessionNone.f k fixed l = some true := by
  have hk : 0 ≤ k ∧ k ≤ 255 := by
    simp only [Lit.wf, Bool.and_eq_true, decide_eq_true_eq] at wk
    exact wk
  unfold X.laws_FnSessionNone.f
  rw [if_pos ⟨hk.1, hk.2, by omega⟩]
end Go.Proofs.YtdnahdddkagfhaaDoor.Pure
