/- Parts between commas, trimmed: it matters not whether the whole is trimmed ahead (for FnUrlOption). -/
import Derived.Test.YtipkpgmgjdfgoaaDoorUq
import Derived.Lib.Space
namespace Go.Proofs.YtipkpgmgjdfgoaaDoor.X
open Go.RowKit
set_option linter.unusedVariables false
set_option linter.unusedSimpArgs false
namespace Url
def sp32 (b : UInt8) : Bool := b == 32
def trim32 (l : List UInt8) : List UInt8 := ((l.dropWhile sp32).reverse.dropWhile sp32).reverse
theorem trim32_cons (l : List UInt8) : trim32 (32 :: l) = trim32 l := by
  unfold trim32
  rw [List.dropWhile_cons, if_pos (by decide)]
theorem trim32_snoc (l : List UInt8) : trim32 (l ++ [32]) = trim32 l := by
  unfold trim32
  rw [List.dropWhile_append]
  split
  · rename_i h
    have e : l.dropWhile sp32 = [] := by simpa using h
    rw [e]
    rfl
  · rw [List.reverse_append]
    show (([32] ++ (l.dropWhile sp32).reverse).dropWhile sp32).reverse = _
    rw [List.singleton_append, List.dropWhile_cons, if_pos (by decide)]
theorem split_cons32 (l : List UInt8) : (splitL (32 :: l)).map trim32 = (splitL l).map trim32 := by
  rw [splitL, if_neg (by decide)]
  cases h : splitL l with
  | nil => exact absurd h (splitL_ne l)
  | cons a t => simp only [List.map_cons, trim32_cons]
theorem split_drop : ∀ l : List UInt8, (splitL (l.dropWhile sp32)).map trim32 = (splitL l).map trim32
  | [] => rfl
  | c :: l => by
    rw [List.dropWhile_cons]
    by_cases h : c = 32
    · subst h
      rw [if_pos (by decide), split_drop l, split_cons32]
    · rw [if_neg (by unfold sp32; simpa using h)]
theorem splitL_snoc (c : UInt8) : ∀ l : List UInt8, splitL (l ++ [c]) = if c = 44 then splitL l ++ [[]] else (splitL l).dropLast ++ [(splitL l).getLast (splitL_ne l) ++ [c]]
  | [] => by
    by_cases h : c = 44
    · rw [if_pos h, h]; rfl
    · rw [if_neg h]
      show splitL [c] = _
      rw [splitL, if_neg h]
      rfl
  | d :: l => by
    have ih := splitL_snoc c l
    have hne := splitL_ne l
    rw [List.cons_append]
    by_cases hd : d = 44
    · have e1 : splitL (d :: (l ++ [c])) = [] :: splitL (l ++ [c]) := by rw [splitL, if_pos hd]
      have e2 : splitL (d :: l) = [] :: splitL l := by rw [splitL, if_pos hd]
      rw [e1, ih]
      simp only [e2]
      split
      · rfl
      · rw [List.dropLast_cons_of_ne_nil hne, List.getLast_cons hne]
        rfl
    · cases hs : splitL l with
      | nil => exact absurd hs hne
      | cons a t =>
        have e2 : splitL (d :: l) = (d :: a) :: t := by rw [splitL, if_neg hd, hs]
        simp only [e2]
        simp only [hs] at ih
        by_cases hc : c = 44
        · rw [if_pos hc] at ih ⊢
          have e1 : splitL (d :: (l ++ [c])) = (d :: a) :: (t ++ [[]]) := by
            rw [splitL, if_neg hd, ih]
            rfl
          rw [e1]
          rfl
        · rw [if_neg hc] at ih ⊢
          cases t with
          | nil =>
            have e1 : splitL (d :: (l ++ [c])) = [d :: (a ++ [c])] := by
              rw [splitL, if_neg hd, ih]
              rfl
            rw [e1]
            rfl
          | cons b t =>
            have e1 : splitL (d :: (l ++ [c])) = (d :: a) :: ((b :: t).dropLast ++ [(b :: t).getLast (by simp) ++ [c]]) := by
              rw [splitL, if_neg hd, ih]
              rfl
            rw [e1]
            rfl
theorem split_snoc32 (l : List UInt8) : (splitL (l ++ [32])).map trim32 = (splitL l).map trim32 := by
  rw [splitL_snoc, if_neg (by decide), List.map_append, List.map_cons, List.map_nil, trim32_snoc]
  conv => rhs; rw [← List.dropLast_concat_getLast (splitL_ne l)]
  rw [List.map_append]
  rfl
theorem split_dropR : ∀ (n : Nat) (l : List UInt8), l.length = n → (splitL (l.reverse.dropWhile sp32).reverse).map trim32 = (splitL l).map trim32 := by
  intro n
  induction n with
  | zero => intro l h; rw [List.eq_nil_of_length_eq_zero h]; rfl
  | succ n ih =>
    intro l h
    have hne : l ≠ [] := by intro e; rw [e] at h; simp at h
    have e := List.dropLast_concat_getLast hne
    by_cases h32 : l.getLast hne = 32
    · rw [← e, h32, List.reverse_append]
      show (splitL (([32] ++ l.dropLast.reverse).dropWhile sp32).reverse).map trim32 = _
      rw [List.singleton_append, List.dropWhile_cons, if_pos (by decide), split_snoc32]
      exact ih _ (by rw [List.length_dropLast]; omega)
    · rw [← e, List.reverse_append]
      show (splitL (([l.getLast hne] ++ l.dropLast.reverse).dropWhile sp32).reverse).map trim32 = _
      rw [List.singleton_append, List.dropWhile_cons, if_neg (by unfold sp32; simpa using h32), List.reverse_cons, List.reverse_reverse]
/-- The parts are the same, whether the whole is trimmed ahead or not. -/
theorem split_trim (l : List UInt8) : (splitL (trim32 l)).map trim32 = (splitL l).map trim32 := by
  unfold trim32
  have := split_dropR _ (l.dropWhile sp32) rfl
  exact this.trans (split_drop l)
theorem dropWhile_same {p q : UInt8 → Bool} : ∀ l : List UInt8, (∀ b ∈ l, p b = q b) → l.dropWhile p = l.dropWhile q
  | [], _ => rfl
  | a :: l, h => by
    rw [List.dropWhile_cons, List.dropWhile_cons, h a (by simp)]
    split
    · exact dropWhile_same l (fun b hb => h b (by simp [hb]))
    · rfl
set_option maxRecDepth 100000 in
theorem isSp_32 : ∀ b : Fin 127, 32 ≤ b.val → Lib.isSp (UInt8.ofNat b.val) = sp32 (UInt8.ofNat b.val) := by decide +kernel
/-- Of texts of visible ASCII signs and blanks strings.TrimSpace takes the blanks alone. -/
theorem trim_same (l : List UInt8) (h : ∀ b ∈ l, 32 ≤ b.toNat ∧ b.toNat < 127) : Lib.trimSpace l = trim32 l := by
  have hp : ∀ b ∈ l, Lib.isSp b = sp32 b := fun b hb => by
    obtain ⟨h0, h1⟩ := h b hb
    have := isSp_32 ⟨b.toNat, h1⟩ h0
    simpa [UInt8.ofNat_toNat] using this
  unfold Lib.trimSpace trim32
  rw [dropWhile_same l hp, dropWhile_same (l.dropWhile sp32).reverse (fun b hb => hp b ((List.dropWhile_sublist _).mem (List.mem_reverse.1 hb)))]
end Url
end Go.Proofs.YtipkpgmgjdfgoaaDoor.X
