/- The plain law of FnSessionClr: its walk (..Cx) tells 'true' of all bytes and every part's size. -/
import Derived.Test.YtdnahdddkagfhaaDoorCx
namespace Go.Proofs.YtdnahdddkagfhaaDoor.Pure
open Go
set_option linter.unusedVariables false in
theorem FnSessionClr (l : List Int) (hm : l.length ≤ maxLen) (hy : l.length * 1 ≤ 140737488351232) (hw : ∀ n ∈ l, (Lit.int .u8 n).wf = true) (n : Int) (wn : (Lit.int .u8 n).wf = true) : X.laws_FnSessionClr.f l n = some true := by
  have hn : 0 ≤ n ∧ n ≤ 255 := by
    simp only [Lit.wf, Bool.and_eq_true, decide_eq_true_eq] at wn
    exact wn
  have hb : ∀ x ∈ l, 0 ≤ x ∧ x ≤ 255 := by
    intro x hx
    have h := hw x hx
    simp only [Lit.wf, Bool.and_eq_true, decide_eq_true_eq] at h
    exact h
  unfold X.laws_FnSessionClr.f
  rw [if_pos ⟨hn.1, by omega, hb, by omega⟩]
end Go.Proofs.YtdnahdddkagfhaaDoor.Pure
