/- The plain law of FnSessionDlc: its walk (..Dx) tells 'true' of all bytes and every number. -/
import Derived.Test.YtdnahdddkagfhaaDoorDx
namespace Go.Proofs.YtdnahdddkagfhaaDoor.Pure
open Go
set_option linter.unusedVariables false in
theorem FnSessionDlc (l : List Int) (hm : l.length ≤ maxLen) (hy : l.length * 1 ≤ 140737488351232) (hw : ∀ n ∈ l, (Lit.int .u8 n).wf = true) (n : Int) (wn : (Lit.int .u16 n).wf = true) (l2 : List Int) (hm2 : l2.length ≤ maxLen) (hy2 : l2.length * 1 ≤ 140737488351232) (hw2 : ∀ n ∈ l2, (Lit.int .u8 n).wf = true) : X.laws_FnSessionDlc.f l n l2 = some true := by
  have hn : 0 ≤ n ∧ n ≤ 65535 := by
    simp only [Lit.wf, Bool.and_eq_true, decide_eq_true_eq] at wn
    exact wn
  have hb : ∀ (l : List Int), (∀ n ∈ l, (Lit.int .u8 n).wf = true) → ∀ x ∈ l, 0 ≤ x ∧ x ≤ 255 := by
    intro l hw x hx
    have h := hw x hx
    simp only [Lit.wf, Bool.and_eq_true, decide_eq_true_eq] at h
    exact h
  unfold X.laws_FnSessionDlc.f
  rw [if_pos ⟨hn.1, hn.2, ⟨hb l hw, by omega⟩, hb l2 hw2, by omega⟩]
end Go.Proofs.YtdnahdddkagfhaaDoor.Pure
