/- The plain law of FnSessionTorn: its walk (..Sf) tells 'true' of all parts. -/
import Derived.Test.YtdnahdddkagfhaaDoorSf
namespace Go.Proofs.YtdnahdddkagfhaaDoor.Pure
open Go
set_option linter.unusedVariables false in
theorem FnSessionTorn (l : List X.Ses.SP) (hw : ∀ p ∈ l, p.wf) (b : Bool) (n : Int) (wn : (Lit.int .u8 n).wf = true) (m : Int) (wm : (Lit.int .u16 m).wf = true) : X.laws_FnSessionTorn.f l b n m = some true := by
  have hn : 0 ≤ n ∧ n ≤ 255 := by
    simp only [Lit.wf, Bool.and_eq_true, decide_eq_true_eq] at wn
    exact wn
  have hm : 0 ≤ m ∧ m ≤ 65535 := by
    simp only [Lit.wf, Bool.and_eq_true, decide_eq_true_eq] at wm
    exact wm
  unfold X.laws_FnSessionTorn.f
  rw [if_pos ⟨hw, hn.1, hn.2, hm.1, hm.2⟩]
end Go.Proofs.YtdnahdddkagfhaaDoor.Pure
