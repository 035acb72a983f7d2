/- Digits of base 256, in plain lists. -/
import Derived.Lib.Bytealg
import Derived.Lib.Bytes
set_option linter.unusedVariables false
namespace Go.Proofs.YtdnahdddkagfhaaDoor.X.Dg
def plainL : Nat → Int → List Int
  | 0, _ => []
  | j + 1, x => (x % 256) :: plainL j (x / 256)
/-- The significant digits of base 256, the least one first. -/
def dgF : Nat → Int → List Int
  | 0, _ => []
  | j + 1, x => if x ≤ 0 then [] else (x % 256) :: dgF j (x / 256)
def digs : List Int → Int
  | [] => 0
  | d :: r => d + 256 * digs r
theorem dgF_len : ∀ (j : Nat) (x : Int), (dgF j x).length ≤ j
  | 0, _ => Nat.le_refl _
  | j + 1, x => by
    rw [dgF]
    split
    · simp
    · have := dgF_len j (x / 256)
      simp; omega
theorem dgF_byt : ∀ (j : Nat) (x : Int), ∀ d ∈ dgF j x, 0 ≤ d ∧ d ≤ 255
  | 0, _, d, h => by simp [dgF] at h
  | j + 1, x, d, h => by
    rw [dgF] at h
    split at h
    · simp at h
    · rcases List.mem_cons.1 h with rfl | h
      · omega
      · exact dgF_byt j _ d h
theorem dgF_zero : ∀ j : Nat, dgF j 0 = []
  | 0 => rfl
  | j + 1 => by rw [dgF, if_pos (by omega)]
theorem dgF_digs : ∀ (j : Nat) (x : Int), 0 ≤ x → x < 256 ^ j → digs (dgF j x) = x
  | 0, x, h0, h1 => by simp at h1; rw [dgF, digs]; omega
  | j + 1, x, h0, h1 => by
    rw [Int.pow_succ] at h1
    rw [dgF]
    split
    · rw [digs]; omega
    · rw [digs, dgF_digs j (x / 256) (by omega) (by omega)]; omega
theorem plainL_zero : ∀ j : Nat, plainL j 0 = List.replicate j 0
  | 0 => rfl
  | j + 1 => by
    rw [plainL, List.replicate_succ]
    have := plainL_zero j
    simp [this]
theorem plainL_dgF : ∀ (j : Nat) (x : Int), 0 ≤ x → x < 256 ^ j → plainL j x = dgF j x ++ List.replicate (j - (dgF j x).length) 0
  | 0, x, h0, h1 => rfl
  | j + 1, x, h0, h1 => by
    rw [Int.pow_succ] at h1
    rw [dgF]
    split
    · have hx : x = 0 := by omega
      subst hx
      rw [plainL_zero]
      simp
    · rw [plainL, plainL_dgF j (x / 256) (by omega) (by omega)]
      simp
theorem dgF_pos : ∀ (j : Nat) (x : Int), 0 < x → x < 256 ^ j → dgF j x ≠ []
  | 0, x, h0, h1 => by rw [Int.pow_zero] at h1; omega
  | j + 1, x, h0, h1 => by rw [dgF, if_neg (by omega)]; simp
theorem dgF_last : ∀ (j : Nat) (x : Int), 0 ≤ x → x < 256 ^ j → ∀ d, (dgF j x).getLast? = some d → d ≠ 0
  | 0, x, h0, h1, d, h => by simp [dgF] at h
  | j + 1, x, h0, h1, d, h => by
    rw [Int.pow_succ] at h1
    rw [dgF] at h
    split at h
    · simp at h
    · by_cases hq : x / 256 = 0
      · rw [hq, dgF_zero] at h
        simp at h
        omega
      · have hne : dgF j (x / 256) ≠ [] := dgF_pos j (x / 256) (by omega) (by omega)
        rw [List.getLast?_cons] at h
        have : (dgF j (x / 256)).getLast? = some d := by
          rw [List.getLast?_eq_some_getLast hne] at h ⊢
          simpa using h
        exact dgF_last j (x / 256) (by omega) (by omega) d this
theorem dgF_short : ∀ (j m : Nat) (x : Int), 0 ≤ x → x < 256 ^ m → (dgF j x).length ≤ m
  | 0, m, x, _, _ => Nat.zero_le _
  | j + 1, m, x, h0, h1 => by
    rw [dgF]
    split
    · exact Nat.zero_le _
    · match m, h1 with
      | 0, h1 => simp at h1; omega
      | m + 1, h1 =>
        rw [Int.pow_succ] at h1
        have := dgF_short j m (x / 256) (by omega) (by omega)
        simp; omega
theorem dropWhile_zeros : ∀ (z : Nat) (l : List Int), (l = [] ∨ ∃ d r, l = d :: r ∧ d ≠ 0) → (List.replicate z 0 ++ l).dropWhile (· == 0) = l
  | 0, l, h => by
    rcases h with rfl | ⟨d, r, rfl, hd⟩
    · rfl
    · rw [List.replicate_zero, List.nil_append, List.dropWhile_cons]
      simp [hd]
  | z + 1, l, h => by
    rw [List.replicate_succ, List.cons_append, List.dropWhile_cons]
    simp only [beq_self_eq_true, if_true]
    exact dropWhile_zeros z l h
theorem trim_dg (j : Nat) (x : Int) (h0 : 0 ≤ x) (h1 : x < 256 ^ j) : ((plainL j x).reverse).dropWhile (· == 0) = (dgF j x).reverse := by
  rw [plainL_dgF j x h0 h1, List.reverse_append, List.reverse_replicate]
  apply dropWhile_zeros
  by_cases h : dgF j x = []
  · left; rw [h]; rfl
  · right
    obtain ⟨d, r, hr⟩ : ∃ d r, (dgF j x).reverse = d :: r := by
      cases hq : (dgF j x).reverse with
      | nil => exact absurd (List.reverse_eq_nil_iff.1 hq) h
      | cons d r => exact ⟨d, r, rfl⟩
    refine ⟨d, r, hr, dgF_last j x h0 h1 d ?_⟩
    rw [← List.head?_reverse, hr]
    rfl
/-- The order of the digits, the least one first, of numbers of as many digits. -/
theorem dgF_inj (j : Nat) (x y : Int) (hx0 : 0 ≤ x) (hy0 : 0 ≤ y) (hx : x < 256 ^ j) (hy : y < 256 ^ j) (h : dgF j x = dgF j y) : x = y := by
  rw [← dgF_digs j x hx0 hx, h, dgF_digs j y hy0 hy]
theorem plainL_len : ∀ (j : Nat) (x : Int), (plainL j x).length = j
  | 0, _ => rfl
  | j + 1, x => by rw [plainL, List.length_cons, plainL_len j]
theorem plainL_byt : ∀ (j : Nat) (x : Int), ∀ d ∈ plainL j x, 0 ≤ d ∧ d ≤ 255
  | 0, _, d, h => by simp [plainL] at h
  | j + 1, x, d, h => by
    rw [plainL] at h
    rcases List.mem_cons.1 h with rfl | h
    · omega
    · exact plainL_byt j _ d h
/-- What bytes spell, the most significant one ahead. -/
def beV : List Int → Int
  | [] => 0
  | d :: r => d * 256 ^ r.length + beV r
theorem beV_bd : ∀ l : List Int, (∀ d ∈ l, 0 ≤ d ∧ d ≤ 255) → 0 ≤ beV l ∧ beV l < 256 ^ l.length
  | [], _ => by simp [beV]
  | d :: r, h => by
    have ih := beV_bd r (fun x hx => h x (by simp [hx]))
    have hd := h d (by simp)
    rw [beV, List.length_cons, Int.pow_succ]
    generalize (256 : Int) ^ r.length = P at *
    have h1 : 0 ≤ d * P := Int.mul_nonneg hd.1 (by omega)
    have h2 : d * P ≤ 255 * P := Int.mul_le_mul_of_nonneg_right hd.2 (by omega)
    omega
theorem beV_snoc : ∀ (l : List Int) (d : Int), beV (l ++ [d]) = beV l * 256 + d
  | [], d => by simp [beV]
  | a :: l, d => by
    rw [List.cons_append, beV, beV, beV_snoc l d, List.length_append, List.length_singleton, Int.pow_succ, Int.add_mul, Int.mul_assoc]
    omega
theorem beV_rev : ∀ ds : List Int, beV ds.reverse = digs ds
  | [] => rfl
  | d :: ds => by rw [List.reverse_cons, beV_snoc, beV_rev ds, digs]; omega
theorem u8_lt {a b : Int} (ha : 0 ≤ a ∧ a ≤ 255) (hb : 0 ≤ b ∧ b ≤ 255) : (UInt8.ofNat a.toNat < UInt8.ofNat b.toNat) ↔ a < b := by
  rw [UInt8.lt_iff_toNat_lt, UInt8.toNat_ofNat', UInt8.toNat_ofNat']
  omega
theorem cmp_be : ∀ (a b : List Int), a.length = b.length → (∀ d ∈ a, 0 ≤ d ∧ d ≤ 255) → (∀ d ∈ b, 0 ≤ d ∧ d ≤ 255) → Go.Lib.compareBytes (Go.Lib.bytesOf a) (Go.Lib.bytesOf b) = if beV a < beV b then -1 else if beV b < beV a then 1 else 0
  | [], [], _, _, _ => by simp [beV, Go.Lib.bytesOf, Go.Lib.compareBytes]
  | [], _ :: _, h, _, _ => by simp at h
  | _ :: _, [], h, _, _ => by simp at h
  | x :: a, y :: b, h, ha, hb => by
    have hl : a.length = b.length := by simpa using h
    have ih := cmp_be a b hl (fun d hd => ha d (by simp [hd])) (fun d hd => hb d (by simp [hd]))
    have hx := ha x (by simp)
    have hy := hb y (by simp)
    have bx := beV_bd a (fun d hd => ha d (by simp [hd]))
    have bY := beV_bd b (fun d hd => hb d (by simp [hd]))
    have eA : beV (x :: a) = x * 256 ^ b.length + beV a := by rw [beV, hl]
    have eB : beV (y :: b) = y * 256 ^ b.length + beV b := rfl
    rw [hl] at bx
    generalize beV (x :: a) = VA at *
    generalize beV (y :: b) = VB at *
    show (if UInt8.ofNat x.toNat < UInt8.ofNat y.toNat then (-1 : Int) else if UInt8.ofNat y.toNat < UInt8.ofNat x.toNat then 1 else Go.Lib.compareBytes (Go.Lib.bytesOf a) (Go.Lib.bytesOf b)) = _
    simp only [u8_lt hx hy, u8_lt hy hx]
    rw [ih]
    generalize (256 : Int) ^ b.length = P at *
    by_cases h1 : x < y
    · rw [if_pos h1]
      have : (x + 1) * P ≤ y * P := Int.mul_le_mul_of_nonneg_right (by omega) (by omega)
      rw [Int.add_mul] at this
      rw [if_pos (by omega)]
    · rw [if_neg h1]
      by_cases h2 : y < x
      · rw [if_pos h2]
        have : (y + 1) * P ≤ x * P := Int.mul_le_mul_of_nonneg_right (by omega) (by omega)
        rw [Int.add_mul] at this
        rw [if_neg (by omega), if_pos (by omega)]
      · rw [if_neg h2]
        have : x = y := by omega
        subst this
        by_cases h3 : beV a < beV b
        · rw [if_pos h3, if_pos (show VA < VB by omega)]
        · rw [if_neg h3, if_neg (show ¬ VA < VB by omega)]
          by_cases h4 : beV b < beV a
          · rw [if_pos h4, if_pos (show VB < VA by omega)]
          · rw [if_neg h4, if_neg (show ¬ VB < VA by omega)]
def dg (x : Int) : List Int := dgF 8 x
/-- A compressed number. -/
def packed (x : Int) : List Int := ((dg x).length : Int) :: (dg x).reverse
theorem dg_len (x : Int) : (dg x).length ≤ 8 := dgF_len 8 x
theorem packed_byt (x : Int) : ∀ d ∈ packed x, 0 ≤ d ∧ d ≤ 255 := by
  intro d hd
  rcases List.mem_cons.1 hd with rfl | hd
  · have := dg_len x; omega
  · have h : d ∈ dg x := by simpa using hd
    exact dgF_byt 8 x d h
theorem dg_low (x : Int) (h0 : 0 < x) (h1 : x < 256 ^ 8) : (256 : Int) ^ ((dg x).length - 1) ≤ x := by
  have := fun h => dgF_short 8 ((dg x).length - 1) x (by omega) h
  rcases Int.lt_or_le x (256 ^ ((dg x).length - 1)) with h | h
  · have h2 := this h
    have h3 : (dg x).length ≠ 0 := by
      intro e
      exact dgF_pos 8 x h0 h1 (List.eq_nil_of_length_eq_zero e)
    unfold dg at h2 h3
    omega
  · exact h
theorem dg_high (x : Int) (h0 : 0 ≤ x) (h1 : x < 256 ^ 8) : x < 256 ^ (dg x).length := by
  have h := beV_bd (dg x).reverse (fun d hd => dgF_byt 8 x d (List.mem_reverse.1 hd))
  rw [beV_rev, List.length_reverse] at h
  have e : digs (dg x) = x := dgF_digs 8 x h0 h1
  omega
theorem pow_mono (m n : Nat) (h : m ≤ n) : (256 : Int) ^ m ≤ 256 ^ n := by
  obtain ⟨d, rfl⟩ := Nat.exists_eq_add_of_le h
  rw [Int.pow_add]
  have h1 : (0 : Int) < 256 ^ m := Int.pow_pos (by omega)
  have h2 : (0 : Int) < 256 ^ d := Int.pow_pos (by omega)
  have h3 : 256 ^ m * 1 ≤ 256 ^ m * (256 : Int) ^ d := Int.mul_le_mul_of_nonneg_left (by omega) (by omega)
  omega
theorem cmp_packed (a b : Int) (ha0 : 0 ≤ a) (ha : a < 256 ^ 8) (hb0 : 0 ≤ b) (hb : b < 256 ^ 8) : Go.Lib.compareBytes (Go.Lib.bytesOf (packed a)) (Go.Lib.bytesOf (packed b)) = if a < b then -1 else if b < a then 1 else 0 := by
  by_cases hl : (dg a).length = (dg b).length
  · rw [cmp_be _ _ (by simp [packed, hl]) (packed_byt a) (packed_byt b)]
    have ea : beV (packed a) = ((dg b).length : Int) * 256 ^ (dg b).length + a := by
      have h : digs (dg a) = a := dgF_digs 8 a ha0 ha
      rw [packed, beV, beV_rev, h, List.length_reverse, hl]
    have eb : beV (packed b) = ((dg b).length : Int) * 256 ^ (dg b).length + b := by
      have h : digs (dg b) = b := dgF_digs 8 b hb0 hb
      rw [packed, beV, beV_rev, h, List.length_reverse]
    rw [ea, eb]
    generalize ((dg b).length : Int) * 256 ^ (dg b).length = Q
    by_cases h1 : a < b
    · rw [if_pos h1, if_pos (by omega)]
    · rw [if_neg h1, if_neg (by omega)]
      by_cases h2 : b < a
      · rw [if_pos h2, if_pos (by omega)]
      · rw [if_neg h2, if_neg (by omega)]
  · have la := dg_len a
    have lb := dg_len b
    have e : Go.Lib.compareBytes (Go.Lib.bytesOf (packed a)) (Go.Lib.bytesOf (packed b)) = if ((dg a).length : Int) < (dg b).length then -1 else 1 := by
      show (if UInt8.ofNat ((dg a).length : Int).toNat < UInt8.ofNat ((dg b).length : Int).toNat then (-1 : Int) else if UInt8.ofNat ((dg b).length : Int).toNat < UInt8.ofNat ((dg a).length : Int).toNat then 1 else _) = _
      simp only [u8_lt (show 0 ≤ ((dg a).length : Int) ∧ ((dg a).length : Int) ≤ 255 by omega) (show 0 ≤ ((dg b).length : Int) ∧ ((dg b).length : Int) ≤ 255 by omega), u8_lt (show 0 ≤ ((dg b).length : Int) ∧ ((dg b).length : Int) ≤ 255 by omega) (show 0 ≤ ((dg a).length : Int) ∧ ((dg a).length : Int) ≤ 255 by omega)]
      by_cases h : ((dg a).length : Int) < (dg b).length
      · rw [if_pos h, if_pos h]
      · rw [if_neg h, if_neg h, if_pos (by omega)]
    rw [e]
    by_cases h : ((dg a).length : Int) < (dg b).length
    · have hb1 : 0 < b := by
        rcases Int.lt_or_le 0 b with h' | h'
        · exact h'
        · have : b = 0 := by omega
          subst this
          have : (dg 0).length = 0 := by unfold dg; rw [dgF_zero]; rfl
          omega
      have h1 := dg_high a ha0 ha
      have h2 := dg_low b hb1 hb
      have h3 := pow_mono (dg a).length ((dg b).length - 1) (by omega)
      rw [if_pos h, if_pos (by omega)]
    · have ha1 : 0 < a := by
        rcases Int.lt_or_le 0 a with h' | h'
        · exact h'
        · have : a = 0 := by omega
          subst this
          have : (dg 0).length = 0 := by unfold dg; rw [dgF_zero]; rfl
          omega
      have h1 := dg_high b hb0 hb
      have h2 := dg_low a ha1 ha
      have h3 := pow_mono (dg b).length ((dg a).length - 1) (by omega)
      rw [if_neg h, if_neg (by omega), if_pos (by omega)]
end Go.Proofs.YtdnahdddkagfhaaDoor.X.Dg
