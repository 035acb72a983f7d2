/- Compressed numbers by the reference, in plain lists: what spec.SessionPacked gives, and what it spells. -/
import Derived.Test.YtdnahdddkagfhaaDoorZM1
import Derived.Test.YtdnahdddkagfhaaDoorTb
import Derived.Laws.BitsLemmas
namespace Go.Proofs.YtdnahdddkagfhaaDoor.X
open Go.RowKit Go.Proofs.YtdnahdddkagfhaaDoorW.PrintWords Go.Proofs.YtdnahdddkagfhaaDoorW.PrintLast Go.Proofs.YtdnahdddkagfhaaDoorW.PrintMore
set_option linter.unusedVariables false
set_option linter.unusedSimpArgs false
namespace Ses
/-- What digits of base 256 spell, the least one first. -/
def digs : List Int → Int
  | [] => 0
  | d :: r => d + 256 * digs r
theorem rev_small (q : Nat) (l : List Int) (h : l.length ≤ 9) : ZM.slices_Reverse_byte_byte.f (q + 6) l = some l.reverse := by
  match l, h with
  | [], _ => simp [ZM.slices_Reverse_byte_byte.f, ZM.slices_Reverse_byte_byte.l0, wrap64, rd]
  | [a], _ => simp [ZM.slices_Reverse_byte_byte.f, ZM.slices_Reverse_byte_byte.l0, wrap64, rd]
  | [a, b], _ => simp [ZM.slices_Reverse_byte_byte.f, ZM.slices_Reverse_byte_byte.l0, wrap64, rd]
  | [a, b, c], _ => simp [ZM.slices_Reverse_byte_byte.f, ZM.slices_Reverse_byte_byte.l0, wrap64, rd]
  | [a, b, c, d], _ => simp [ZM.slices_Reverse_byte_byte.f, ZM.slices_Reverse_byte_byte.l0, wrap64, rd]
  | [a, b, c, d, e], _ => simp [ZM.slices_Reverse_byte_byte.f, ZM.slices_Reverse_byte_byte.l0, wrap64, rd]
  | [a, b, c, d, e, f], _ => simp [ZM.slices_Reverse_byte_byte.f, ZM.slices_Reverse_byte_byte.l0, wrap64, rd]
  | [a, b, c, d, e, f, g], _ => simp [ZM.slices_Reverse_byte_byte.f, ZM.slices_Reverse_byte_byte.l0, wrap64, rd]
  | [a, b, c, d, e, f, g, i], _ => simp [ZM.slices_Reverse_byte_byte.f, ZM.slices_Reverse_byte_byte.l0, wrap64, rd]
  | [a, b, c, d, e, f, g, i, j], _ => simp [ZM.slices_Reverse_byte_byte.f, ZM.slices_Reverse_byte_byte.l0, wrap64, rd]
  | _ :: _ :: _ :: _ :: _ :: _ :: _ :: _ :: _ :: _ :: r, h => simp at h
theorem packed_loop : ∀ (j q : Nat) (x : Int) (acc : List Int), 0 ≤ x → x < 256 ^ j → acc.length + j ≤ 8 →
    ∃ ds : List Int, ds.length ≤ j ∧ (∀ d ∈ ds, 0 ≤ d ∧ d ≤ 255) ∧ digs ds = x ∧ (x = 0 ↔ ds = []) ∧
      ZM.spec_SessionPacked.l0 (q + 7 + j) x acc = some ((((acc ++ ds).length : Int) % 256) :: (acc ++ ds).reverse)
  | 0, q, x, acc, h0, h1, h2 => by
    have hx : x = 0 := by simp at h1; omega
    subst hx
    refine ⟨[], Nat.le_refl _, by simp, rfl, by simp, ?_⟩
    simp only [ZM.spec_SessionPacked.l0, Nat.add_zero]
    rw [if_neg (by omega), if_pos (by omega), rev_small q _ (by rw [List.length_append]; simp; omega)]
    simp
  | j + 1, q, x, acc, h0, h1, h2 => by
    by_cases hx : x = 0
    · subst hx
      refine ⟨[], Nat.zero_le _, by simp, rfl, by simp, ?_⟩
      rw [show q + 7 + (j + 1) = (q + 1 + j + 6) + 1 by omega]
      simp only [ZM.spec_SessionPacked.l0]
      rw [if_neg (by omega), if_pos (by omega), rev_small (q + 1 + j) _ (by rw [List.length_append]; simp; omega)]
      simp
    · have hp : (256 : Int) ^ (j + 1) = 256 * 256 ^ j := by rw [Int.pow_succ]; omega
      obtain ⟨ds, d1, d2, d3, d4, d5⟩ := packed_loop j q (x / 256) (acc ++ [x % 256]) (by omega) (by rw [hp] at h1; omega) (by rw [List.length_append]; simp; omega)
      refine ⟨(x % 256) :: ds, by simp; omega, ?_, by rw [digs, d3]; omega, by simp [hx], ?_⟩
      · intro d hd
        rcases List.mem_cons.1 hd with rfl | hd
        · omega
        · exact d2 d hd
      · rw [show q + 7 + (j + 1) = (q + 7 + j) + 1 by omega]
        simp only [ZM.spec_SessionPacked.l0]
        rw [if_pos (by omega), if_pos (by omega), d5]
        simp
theorem packed_f (x : Int) (h0 : 0 ≤ x) (h1 : x < 256 ^ 8) : ∃ ds : List Int, ds.length ≤ 8 ∧ (∀ d ∈ ds, 0 ≤ d ∧ d ≤ 255) ∧ digs ds = x ∧ (x = 0 ↔ ds = []) ∧ ∃ k, ZM.spec_SessionPacked.f k x = some ((ds.length : Int) :: ds.reverse) := by
  obtain ⟨ds, d1, d2, d3, d4, d5⟩ := packed_loop 8 0 x [] h0 h1 (by simp)
  refine ⟨ds, d1, d2, d3, d4, 0 + 7 + 8, ?_⟩
  unfold ZM.spec_SessionPacked.f
  rw [d5, List.nil_append, show ((ds.length : Int) % 256) = (ds.length : Int) by omega]
theorem beFrom_snoc : ∀ (l : List UInt8) (a : Nat) (b : UInt8), Lib.beFrom a (l ++ [b]) = Lib.beFrom a l * 256 + b.toNat
  | [], a, b => rfl
  | x :: l, a, b => by
    rw [List.cons_append, Lib.beFrom, Lib.beFrom, beFrom_snoc l]
theorem beFrom_zeros : ∀ (z : Nat) (l : List UInt8), Lib.beFrom 0 (List.replicate z 0 ++ l) = Lib.beFrom 0 l
  | 0, l => by simp
  | z + 1, l => by
    rw [List.replicate_succ, List.cons_append, Lib.beFrom]
    exact beFrom_zeros z l
theorem beVal_digs : ∀ (ds : List Int), (∀ d ∈ ds, 0 ≤ d ∧ d ≤ 255) → (Lib.beFrom 0 (ds.reverse.map fun y => UInt8.ofNat y.toNat) : Int) = digs ds
  | [], _ => rfl
  | d :: ds, h => by
    have ih := beVal_digs ds (fun x hx => h x (by simp [hx]))
    have hd := h d (by simp)
    rw [List.reverse_cons, List.map_append, List.map_singleton, beFrom_snoc, digs]
    have e : ((UInt8.ofNat d.toNat).toNat : Int) = d := by
      rw [UInt8.toNat_ofNat']
      omega
    rw [Int.natCast_add, Int.natCast_mul, ih, e]
    show digs ds * 256 + d = d + 256 * digs ds
    omega
theorem beVal_rev (ds : List Int) (h : ∀ d ∈ ds, 0 ≤ d ∧ d ≤ 255) : beVal ds.reverse = digs ds := by
  unfold beVal eight
  rw [List.map_append, List.map_replicate]
  show (Lib.beFrom 0 (List.replicate _ 0 ++ _) : Int) = _
  rw [beFrom_zeros]
  exact beVal_digs ds h
theorem and63 (x : Int) (h0 : 0 ≤ x) (h1 : x < 18446744073709551616) : Go.bits .and .u64 x 9223372036854775807 = x % 9223372036854775808 :=
  Go.bits_mask .u64 64 (by decide) (fun n a b => by simp [IntKind.wrap, IntKind.bits, IntKind.signed]; omega) 63 (by decide) x h0 h1
end Ses
end Go.Proofs.YtdnahdddkagfhaaDoor.X
