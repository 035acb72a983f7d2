/- The pure law of FnSessionTurned: a number read with the most significant byte ahead is the one that the bytes turned around give with the least significant one ahead (the walk, in ..Tn, tells it already). -/
import Derived.Test.YtdnahdddkagfhaaDoorTn
namespace Go.Proofs.YtdnahdddkagfhaaDoor.Pure
open Go
theorem FnSessionTurned (n : Int) (wn : (Lit.int .u64 n).wf = true) (size : Int) (ws : (Lit.int .u8 size).wf = true) : X.laws_FnSessionTurned.f n size = some true := by
  have hn : 0 ≤ n ∧ n ≤ 18446744073709551615 := by
    simp only [Lit.wf, Bool.and_eq_true, decide_eq_true_eq] at wn
    exact wn
  have hs : 0 ≤ size ∧ size ≤ 255 := by
    simp only [Lit.wf, Bool.and_eq_true, decide_eq_true_eq] at ws
    exact ws
  unfold X.laws_FnSessionTurned.f
  rw [if_pos ⟨hn.1, by omega, hs.1, hs.2⟩]
end Go.Proofs.YtdnahdddkagfhaaDoor.Pure
