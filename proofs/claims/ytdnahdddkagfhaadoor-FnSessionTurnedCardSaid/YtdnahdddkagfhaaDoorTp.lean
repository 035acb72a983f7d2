/- Numbers of a size by the reference, in plain lists; impl.got of such a number. -/
import Derived.Test.YtdnahdddkagfhaaDoorGp
import Derived.Test.YtdnahdddkagfhaaDoorMp
namespace Go.Proofs.YtdnahdddkagfhaaDoor.X
open Go.RowKit Go.Proofs.YtdnahdddkagfhaaDoorW.PrintWords Go.Proofs.YtdnahdddkagfhaaDoorW.PrintLast Go.Proofs.YtdnahdddkagfhaaDoorW.PrintMore
attribute [local go_sem] setCell_drewN alloc_drewN
set_option linter.unusedVariables false
set_option linter.unusedSimpArgs false
namespace Ses
/-- So many digits of base 256, the least one first. -/
def plainL : Nat → Int → List Int
  | 0, _ => []
  | j + 1, x => (x % 256) :: plainL j (x / 256)
theorem plainL_len : ∀ (j : Nat) (x : Int), (plainL j x).length = j
  | 0, _ => rfl
  | j + 1, x => by rw [plainL, List.length_cons, plainL_len j]
theorem plainL_byt : ∀ (j : Nat) (x : Int), ∀ d ∈ plainL j x, 0 ≤ d ∧ d ≤ 255
  | 0, _, d, h => by simp [plainL] at h
  | j + 1, x, d, h => by
    rw [plainL] at h
    rcases List.mem_cons.1 h with rfl | h
    · omega
    · exact plainL_byt j _ d h
theorem plainL_digs : ∀ (j : Nat) (x : Int), 0 ≤ x → digs (plainL j x) = x % 256 ^ j
  | 0, x, _ => by simp [plainL, digs]
  | j + 1, x, h => by
    rw [plainL, digs, plainL_digs j (x / 256) (by omega), Int.pow_succ]
    have hp : (0 : Int) < 256 ^ j := Int.pow_pos (by omega)
    generalize (256 : Int) ^ j = P at *
    have e := Int.emod_emod_of_dvd x (Int.dvd_mul_left 256 P)
    have h1 := Int.emod_add_mul_ediv x (P * 256)
    have h2 : x / 256 % P = (x / 256) - P * (x / 256 / P) := by have := Int.emod_add_mul_ediv (x / 256) P; omega
    have h3 : x / 256 / P = x / (P * 256) := by rw [Int.ediv_ediv_of_nonneg (by omega), Int.mul_comm]
    rw [h2, h3]
    have h4 : P * 256 * (x / (P * 256)) = 256 * (P * (x / (P * 256))) := by rw [Int.mul_comm P 256, Int.mul_assoc]
    rw [h4] at h1
    omega
theorem plain_loop : ∀ (j q : Nat) (x : Int) (acc : List Int) (i : Nat), acc.length + j ≤ 9 → i + j ≤ 8 →
    ZM.spec_SessionPlain.l0 (q + 7 + j) x true acc ((i + j : Nat) : Int) (i : Int) = some (acc ++ plainL j x).reverse
  | 0, q, x, acc, i, h1, h2 => by
    simp only [ZM.spec_SessionPlain.l0, Nat.add_zero]
    rw [if_neg (by omega), if_pos trivial, rev_small q _ (by omega)]
    simp [plainL]
  | j + 1, q, x, acc, i, h1, h2 => by
    have ih := plain_loop j q (x / 256) (acc ++ [x % 256]) (i + 1) (by rw [List.length_append]; simp; omega) (by omega)
    rw [show q + 7 + (j + 1) = (q + 7 + j) + 1 by omega]
    simp only [ZM.spec_SessionPlain.l0]
    rw [if_pos (by omega), if_pos (by omega), show wrap64 ((i : Int) + 1) = ((i + 1 : Nat) : Int) by unfold wrap64; omega, show i + (j + 1) = i + 1 + j by omega, ih, plainL]
    simp
theorem plain_f (k : Nat) (hk : k ≤ 8) (x : Int) : ∃ K, ZM.spec_SessionPlain.f K x (k : Int) true = some (plainL k x).reverse := by
  refine ⟨0 + 7 + k, ?_⟩
  have h := plain_loop k 0 x [] 0 (by simp; omega) (by omega)
  rw [List.nil_append, show ((0 + k : Nat) : Int) = (k : Int) by omega] at h
  exact h
theorem leNat_zeros : ∀ z : Nat, Lib.leNat (List.replicate z 0) = 0
  | 0 => rfl
  | z + 1 => by rw [List.replicate_succ, Lib.leNat, leNat_zeros z]; rfl
theorem leVal_digs0 (z : Nat) : ∀ ds : List Int, (∀ d ∈ ds, 0 ≤ d ∧ d ≤ 255) → (Lib.leNat ((ds.map fun y => UInt8.ofNat y.toNat) ++ List.replicate z 0) : Int) = digs ds
  | [], _ => by rw [List.map_nil, List.nil_append, leNat_zeros]; rfl
  | d :: ds, h => by
    have ih := leVal_digs0 z ds (fun x hx => h x (by simp [hx]))
    have hd := h d (by simp)
    have e : ((UInt8.ofNat d.toNat).toNat : Int) = d := by
      rw [UInt8.toNat_ofNat']
      omega
    rw [List.map_cons, List.cons_append, Lib.leNat, digs, Int.natCast_add, Int.natCast_mul, ih, e]
    rfl
theorem leVal_digs (ds : List Int) (h : ∀ d ∈ ds, 0 ≤ d ∧ d ≤ 255) : leVal ds = digs ds := by
  unfold leVal eightL
  rw [List.map_append, List.map_replicate]
  exact leVal_digs0 _ ds h
end Ses
end Go.Proofs.YtdnahdddkagfhaaDoor.X
