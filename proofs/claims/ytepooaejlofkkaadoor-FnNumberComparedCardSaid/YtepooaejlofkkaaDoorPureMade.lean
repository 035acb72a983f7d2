/- What is made of digits, a sign and an exponent: the package's form and the reference's are one. -/
import Derived.Test.YtepooaejlofkkaaDoorPureFnNumberLength
namespace Go.Proofs.YtepooaejlofkkaaDoor.Pure
open Go Go.RowKit Go.Proofs.YtepooaejlofkkaaDoor Go.Proofs.YtepooaejlofkkaaDoor.X Go.Proofs.YtepooaejlofkkaaDoor.ZN Go.Proofs.YtepooaejlofkkaaDoorW.PrintWords Go.Proofs.YtepooaejlofkkaaDoorW.PrintLast Go.Proofs.YtepooaejlofkkaaDoorW.PrintMore
set_option linter.unusedVariables false
set_option linter.unusedSimpArgs false

def Digs (l : List Int) : Prop := ∀ x ∈ l, 0 ≤ x ∧ x ≤ 9
theorem Digs.get {l : List Int} (h : Digs l) (i : Nat) : 0 ≤ l.getD i 0 ∧ l.getD i 0 ≤ 9 := by
  rw [List.getD_eq_getElem?_getD]
  by_cases hi : i < l.length
  · rw [List.getElem?_eq_getElem hi]; exact h _ (List.getElem_mem hi)
  · rw [List.getElem?_eq_none (by omega)]; exact ⟨by simp, by simp⟩
theorem Digs.take {l : List Int} (h : Digs l) (m : Nat) : Digs (l.take m) := fun x hx => h x (List.mem_of_mem_take hx)
theorem Digs.drop {l : List Int} (h : Digs l) (m : Nat) : Digs (l.drop m) := fun x hx => h x (List.mem_of_mem_drop hx)

/-- Digits without noughts at both ends. -/
structure Norm (D : List Int) : Prop where
  len : D.length ≤ 18
  digs : Digs D
  first : 0 < D.length → D.getD 0 0 ≠ 0
  last : 0 < D.length → D.getD (D.length - 1) 0 ≠ 0

theorem rd_nat (l : List Int) (i : Nat) : rd l (i : Int) = l.getD i 0 := by unfold rd; rw [Int.toNat_natCast]

theorem l2_ex (n : Nat) : ∀ (k : Nat) (x : List Int), x.length = n → n < k → n ≤ 18 → Digs x → (0 < x.length → x.getD 0 0 ≠ 0) → ∃ D, laws_numberDigits.l2 k x = some D ∧ Norm D := by
  induction n with
  | zero =>
    intro k x hx hk hn hd hf
    obtain ⟨k, rfl⟩ : ∃ m, k = m + 1 := ⟨k - 1, by omega⟩
    simp only [laws_numberDigits.l2]
    rw [if_neg (by omega)]
    exact ⟨x, rfl, by omega, hd, hf, fun h => by omega⟩
  | succ n ih =>
    intro k x hx hk hn hd hf
    obtain ⟨k, rfl⟩ : ∃ m, k = m + 1 := ⟨k - 1, by omega⟩
    simp only [laws_numberDigits.l2]
    have e : wrap64 ((x.length : Int) - 1) = (n : Int) := by rw [wrap_id _ (by omega)]; omega
    rw [e, if_pos (by omega), if_pos (by omega), if_pos (by omega), rd_nat]
    by_cases h0 : x.getD n 0 = 0
    · rw [if_pos h0, if_pos (by omega), Int.toNat_natCast]
      have hl : (x.take n).length = n := by rw [List.length_take]; omega
      refine ih k (x.take n) hl (by omega) (by omega) (hd.take n) (fun h => ?_)
      have := hf (by omega)
      rw [hl] at h
      simp only [List.getD_eq_getElem?_getD] at this ⊢
      rwa [List.getElem?_take, if_pos h]
    · rw [if_neg h0]
      exact ⟨x, rfl, by omega, hd, hf, fun _ => by rw [hx]; exact h0⟩

theorem l1_ex (n : Nat) : ∀ (k : Nat) (x : List Int), x.length = n → 2 * n + 3 < k → n ≤ 18 → Digs x → ∃ D, laws_numberDigits.l1 k x = some D ∧ Norm D := by
  induction n with
  | zero =>
    intro k x hx hk hn hd
    obtain ⟨k, rfl⟩ : ∃ m, k = m + 2 := ⟨k - 2, by omega⟩
    simp only [laws_numberDigits.l1, laws_numberDigits.j2]
    rw [if_neg (by omega)]
    exact l2_ex 0 k x hx (by omega) (by omega) hd (fun h => by omega)
  | succ n ih =>
    intro k x hx hk hn hd
    obtain ⟨k, rfl⟩ : ∃ m, k = m + 2 := ⟨k - 2, by omega⟩
    rw [laws_numberDigits.l1]
    rw [if_pos (by omega), if_pos (by omega)]
    have e0 : rd x 0 = x.getD 0 0 := rd_nat x 0
    rw [e0]
    by_cases h0 : x.getD 0 0 = 0
    · rw [if_pos h0, if_pos (by omega)]
      exact ih (k + 1) (x.drop 1) (by rw [List.length_drop]; omega) (by omega) (by omega) (hd.drop 1)
    · rw [if_neg h0]
      simp only [laws_numberDigits.j2]
      exact l2_ex (n + 1) k x hx (by omega) (by omega) hd (fun _ => h0)

theorem l0_ex (l : List Int) (hb : Byt l) (hl : l.length ≤ 2147483647) (d : Nat) : ∀ (k : Nat) (x : List Int) (i : Nat), l.length - i = d → i ≤ l.length → d + 45 < k → x.length ≤ 18 → Digs x →
    ∃ D, laws_numberDigits.l0 k 18 x l (l.length : Int) (i : Int) = some D ∧ Norm D := by
  induction d with
  | zero =>
    intro k x i hd hi hk hx hg
    obtain ⟨k, rfl⟩ : ∃ m, k = m + 1 := ⟨k - 1, by omega⟩
    rw [laws_numberDigits.l0]
    rw [if_neg (by omega)]
    exact l1_ex x.length k x rfl (by omega) hx hg
  | succ d ih =>
    intro k x i hd hi hk hx hg
    obtain ⟨k, rfl⟩ : ∃ m, k = m + 1 := ⟨k - 1, by omega⟩
    rw [laws_numberDigits.l0]
    have e : wrap64 ((i : Int) + 1) = ((i + 1 : Nat) : Int) := by rw [wrap_id _ (by omega)]; omega
    rw [if_pos (by omega), if_pos (by omega), if_pos (by omega), e, rd_nat]
    by_cases h : x.length < 18
    · rw [if_pos (by omega), if_pos (by omega)]
      have hg' := hb.get i
      refine ih k _ (i + 1) (by omega) (by omega) (by omega) (by simp; omega) ?_
      intro z hz
      rcases List.mem_append.1 hz with hz | hz
      · exact hg z hz
      · rw [List.mem_singleton.1 hz, Int.tmod_eq_emod_of_nonneg hg'.1]; omega
    · rw [if_neg (by omega)]
      exact ih k x (i + 1) (by omega) (by omega) (by omega) hx hg

theorem digits_ex (l : List Int) (hb : Byt l) (hl : l.length ≤ 2147483647) (k : Nat) (hk : l.length + 50 < k) : ∃ D, laws_numberDigits.f k l 18 = some D ∧ Norm D := by
  unfold laws_numberDigits.f
  exact l0_ex l hb hl l.length k [] 0 (by omega) (by omega) (by omega) (by simp) (by intro x hx; cases hx)

/-- The digits' letters. -/
def lets (D : List Int) : List Int := D.map fun x => 48 + x
theorem lets_length (D : List Int) : (lets D).length = D.length := by unfold lets; rw [List.length_map]
theorem letters_l0 (D : List Int) (hg : Digs D) (hl : D.length ≤ 1000) (d : Nat) : ∀ (k : Nat) (x : List Int) (i : Nat), D.length - i = d → i ≤ D.length → d < k → x.length ≤ 1000 + i →
    laws_numberLetters.l0 k x D (D.length : Int) (i : Int) = some (x ++ lets (D.drop i)) := by
  induction d with
  | zero =>
    intro k x i hd hi hk hx
    obtain ⟨k, rfl⟩ : ∃ m, k = m + 1 := ⟨k - 1, by omega⟩
    rw [laws_numberLetters.l0, if_neg (by omega), List.drop_of_length_le (by omega)]
    unfold lets; simp
  | succ d ih =>
    intro k x i hd hi hk hx
    obtain ⟨k, rfl⟩ : ∃ m, k = m + 1 := ⟨k - 1, by omega⟩
    have e : wrap64 ((i : Int) + 1) = ((i + 1 : Nat) : Int) := by rw [wrap_id _ (by omega)]; omega
    have hg' := hg.get i
    rw [laws_numberLetters.l0, if_pos (by omega), if_pos (by omega), if_pos (by omega), if_pos (by omega), e, rd_nat]
    rw [ih k _ (i + 1) (by omega) (by omega) (by omega) (by simp; omega)]
    have hdr : D.drop i = D.getD i 0 :: D.drop (i + 1) := by
      rw [List.drop_eq_getElem_cons (by omega), List.getD_eq_getElem?_getD, List.getElem?_eq_getElem (by omega)]; rfl
    rw [hdr]
    unfold lets
    rw [List.map_cons, List.append_assoc, show (48 + D.getD i 0) % 256 = 48 + D.getD i 0 from by omega]
    rfl
theorem letters_f (D : List Int) (hg : Digs D) (hl : D.length ≤ 1000) (k : Nat) (hk : D.length < k) : laws_numberLetters.f k D = some (lets D) := by
  unfold laws_numberLetters.f
  rw [show (0 : Int) = ((0 : Nat) : Int) from rfl, letters_l0 D hg hl D.length k [] 0 (by omega) (by omega) hk (by simp)]
  simp

/-- Pairs of digits. -/
def pairs10 : List Int → List Int
  | a :: b :: t => (10 * a + b) :: pairs10 t
  | _ => []
theorem pairs10_length : ∀ l : List Int, (pairs10 l).length = l.length / 2
  | [] => rfl
  | [a] => by simp [pairs10]
  | a :: b :: t => by simp only [pairs10, List.length_cons, pairs10_length t]; omega
theorem pairs10_rng : ∀ l : List Int, Digs l → ∀ p ∈ pairs10 l, 0 ≤ p ∧ p ≤ 99
  | [], _, p, hp => by cases hp
  | [a], _, p, hp => by cases hp
  | a :: b :: t, h, p, hp => by
    have ha := h a (by simp)
    have hb := h b (by simp)
    simp only [pairs10, List.mem_cons] at hp
    rcases hp with rfl | hp
    · omega
    · exact pairs10_rng t (fun x hx => h x (by simp [hx])) p hp

theorem bytes_l1 (P : List Int) (hP : ∀ p ∈ P, 0 ≤ p ∧ p ≤ 99) (hl : P.length ≤ 1000) (d : Nat) : ∀ (k : Nat) (x : List Int) (i : Nat), P.length - i = d → i ≤ P.length → d < k → x.length ≤ 1000 + i →
    spec_NumberBytes.l1 k x P (P.length : Int) (i : Int) = some (x ++ (P.drop i).map fun p => p + 1) := by
  induction d with
  | zero =>
    intro k x i hd hi hk hx
    obtain ⟨k, rfl⟩ : ∃ m, k = m + 1 := ⟨k - 1, by omega⟩
    rw [spec_NumberBytes.l1, if_neg (by omega), List.drop_of_length_le (by omega)]
    simp
  | succ d ih =>
    intro k x i hd hi hk hx
    obtain ⟨k, rfl⟩ : ∃ m, k = m + 1 := ⟨k - 1, by omega⟩
    have e : wrap64 ((i : Int) + 1) = ((i + 1 : Nat) : Int) := by rw [wrap_id _ (by omega)]; omega
    have hdr : P.drop i = P.getD i 0 :: P.drop (i + 1) := by
      rw [List.drop_eq_getElem_cons (by omega), List.getD_eq_getElem?_getD, List.getElem?_eq_getElem (by omega)]; rfl
    have hg' : 0 ≤ P.getD i 0 ∧ P.getD i 0 ≤ 99 := hP _ (List.mem_of_mem_drop (i := i) (by rw [hdr]; simp))
    rw [spec_NumberBytes.l1, if_pos (by omega), if_pos (by omega), if_pos (by omega), if_pos (by omega), e, rd_nat]
    rw [ih k _ (i + 1) (by omega) (by omega) (by omega) (by simp; omega), hdr, List.map_cons, List.append_assoc, show (P.getD i 0 + 1) % 256 = P.getD i 0 + 1 from by omega]
    rfl
theorem bytes_l2 (P : List Int) (hP : ∀ p ∈ P, 0 ≤ p ∧ p ≤ 99) (hl : P.length < 20) (d : Nat) : ∀ (k : Nat) (x : List Int) (i : Nat), P.length - i = d → i ≤ P.length → d < k → x.length ≤ 1000 + i →
    spec_NumberBytes.l2 k P x P (P.length : Int) (i : Int) = some (x ++ ((P.drop i).map fun p => 101 - p) ++ [102]) := by
  induction d with
  | zero =>
    intro k x i hd hi hk hx
    obtain ⟨k, rfl⟩ : ∃ m, k = m + 1 := ⟨k - 1, by omega⟩
    rw [spec_NumberBytes.l2, if_neg (by omega), if_pos (by omega), if_pos (by omega), List.drop_of_length_le (by omega)]
    simp
  | succ d ih =>
    intro k x i hd hi hk hx
    obtain ⟨k, rfl⟩ : ∃ m, k = m + 1 := ⟨k - 1, by omega⟩
    have e : wrap64 ((i : Int) + 1) = ((i + 1 : Nat) : Int) := by rw [wrap_id _ (by omega)]; omega
    have hdr : P.drop i = P.getD i 0 :: P.drop (i + 1) := by
      rw [List.drop_eq_getElem_cons (by omega), List.getD_eq_getElem?_getD, List.getElem?_eq_getElem (by omega)]; rfl
    have hg' : 0 ≤ P.getD i 0 ∧ P.getD i 0 ≤ 99 := hP _ (List.mem_of_mem_drop (i := i) (by rw [hdr]; simp))
    rw [spec_NumberBytes.l2, if_pos (by omega), if_pos (by omega), if_pos (by omega), if_pos (by omega), e, rd_nat]
    rw [ih k _ (i + 1) (by omega) (by omega) (by omega) (by simp; omega), hdr, List.map_cons, show (101 - P.getD i 0) % 256 = 101 - P.getD i 0 from by omega]
    simp

/-- The form, of pairs and the exponent of the first one. -/
def formOf (neg : Bool) (P : List Int) (power : Int) : List Int :=
  if neg then (62 - power) :: ((P.map fun p => 101 - p) ++ [102]) else (193 + power) :: (P.map fun p => p + 1)

theorem tdiv2 (x : Int) (h : -1000 ≤ x ∧ x ≤ 1000) : -500 ≤ Int.tdiv x 2 ∧ Int.tdiv x 2 ≤ 500 := by
  by_cases h0 : 0 ≤ x
  · rw [Int.tdiv_eq_ediv_of_nonneg h0]; omega
  · have e : x = -(-x) := by omega
    rw [e, Int.neg_tdiv, Int.tdiv_eq_ediv_of_nonneg (by omega)]; omega

theorem bytes_l0 (x8 : List Int) (hg : Digs x8) (he : x8.length % 2 = 0) (hl : x8.length ≤ 38) (neg : Bool) (x9 : Int) (h9 : -62 ≤ Int.tdiv x9 2 ∧ Int.tdiv x9 2 ≤ 62) (d : Nat) : ∀ (k : Nat) (x7 : List Int) (i : Nat), x8.length - 2 * i = 2 * d → 2 * i ≤ x8.length → d + 30 < k → x7 = pairs10 (x8.take (2 * i)) →
    spec_NumberBytes.l0 k neg x7 x8 x9 ((2 * i : Nat) : Int) = some (formOf neg (pairs10 x8) (Int.tdiv x9 2)) := by
  induction d with
  | zero =>
    intro k x7 i hd hi hk hx
    obtain ⟨k, rfl⟩ : ∃ m, k = m + 1 := ⟨k - 1, by omega⟩
    rw [spec_NumberBytes.l0, if_neg (by omega)]
    rw [List.take_of_length_le (by omega)] at hx
    have hP := pairs10_rng x8 hg
    have hPl := pairs10_length x8
    subst hx
    rw [wrap_id (Int.tdiv x9 2) (by omega)]
    cases neg with
    | true =>
      rw [if_pos rfl, wrap_id (62 - Int.tdiv x9 2) (by omega), show (0 : Int) = ((0 : Nat) : Int) from rfl, bytes_l2 (pairs10 x8) hP (by omega) (pairs10 x8).length k _ 0 (by omega) (by omega) (by omega) (by simp)]
      unfold formOf
      rw [if_pos rfl, show (62 - Int.tdiv x9 2) % 256 = 62 - Int.tdiv x9 2 from by omega]
      simp
    | false =>
      rw [if_neg (by simp), wrap_id (193 + Int.tdiv x9 2) (by omega), show (0 : Int) = ((0 : Nat) : Int) from rfl, bytes_l1 (pairs10 x8) hP (by omega) (pairs10 x8).length k _ 0 (by omega) (by omega) (by omega) (by simp)]
      unfold formOf
      rw [if_neg (by simp), show (193 + Int.tdiv x9 2) % 256 = 193 + Int.tdiv x9 2 from by omega]
      simp
  | succ d ih =>
    intro k x7 i hd hi hk hx
    obtain ⟨k, rfl⟩ : ∃ m, k = m + 1 := ⟨k - 1, by omega⟩
    have hlen : x7.length ≤ 19 := by rw [hx, pairs10_length, List.length_take]; omega
    have e1 : wrap64 (((2 * i : Nat) : Int) + 1) = ((2 * i + 1 : Nat) : Int) := by rw [wrap_id _ (by omega)]; omega
    have e2 : wrap64 (((2 * i : Nat) : Int) + 2) = ((2 * (i + 1) : Nat) : Int) := by rw [wrap_id _ (by omega)]; omega
    have ga := hg.get (2 * i)
    have gb := hg.get (2 * i + 1)
    rw [spec_NumberBytes.l0, if_pos (by omega), if_pos (by omega), e1, if_pos (by omega), if_pos (by omega), if_pos (by omega), e2, rd_nat, rd_nat]
    refine ih k _ (i + 1) (by omega) (by omega) (by omega) ?_
    rw [hx]
    have key : ∀ (m : Nat) (l : List Int), 2 * m + 1 < l.length → pairs10 (l.take (2 * (m + 1))) = pairs10 (l.take (2 * m)) ++ [10 * l.getD (2 * m) 0 + l.getD (2 * m + 1) 0] := by
      intro m
      induction m with
      | zero =>
        intro l hl2
        match l, hl2 with
        | a :: b :: t, _ => rfl
      | succ m ihm =>
        intro l hl2
        match l, hl2 with
        | [], h => simp at h
        | [a], h => simp at h
        | a :: b :: t, h =>
          have := ihm t (by simp only [List.length_cons] at h; omega)
          show pairs10 (a :: b :: t.take (2 * (m + 1))) = pairs10 (a :: b :: t.take (2 * m)) ++ _
          rw [pairs10, pairs10, this]
          rfl
    rw [key i x8 (by omega), show ((10 * x8.getD (2 * i) 0) % 256 + x8.getD (2 * i + 1) 0) % 256 = 10 * x8.getD (2 * i) 0 + x8.getD (2 * i + 1) 0 from by omega]

/-- The exponent's pair. -/
def powerOf (e : Int) : Int := Int.tdiv (if Int.tmod e 2 = 0 then e else e - 1) 2
/-- The digits, brought to pairs. -/
def padded (D : List Int) (e : Int) : List Int :=
  let d := if Int.tmod e 2 = 0 then 0 :: D else D
  if d.length % 2 = 1 then d ++ [0] else d

theorem tmod_or (e : Int) : Int.tmod e 2 = 0 ∨ Int.tmod e 2 = 1 ∨ Int.tmod e 2 = -1 := by
  by_cases h0 : 0 ≤ e
  · rw [Int.tmod_eq_emod_of_nonneg h0]; omega
  · have e' : e = -(-e) := by omega
    rw [e', Int.neg_tmod, Int.tmod_eq_emod_of_nonneg (by omega)]; omega
theorem power_rng (e : Int) (h : -100 ≤ e ∧ e ≤ 100) : -62 ≤ powerOf e ∧ powerOf e ≤ 62 := by
  unfold powerOf
  split
  all_goals
    first
      | (by_cases h0 : 0 ≤ e
         · rw [Int.tdiv_eq_ediv_of_nonneg h0]; omega
         · have e' : e = -(-e) := by omega
           rw [e', Int.neg_tdiv, Int.tdiv_eq_ediv_of_nonneg (by omega)]; omega)
      | (by_cases h0 : 0 ≤ e - 1
         · rw [Int.tdiv_eq_ediv_of_nonneg h0]; omega
         · have e' : e - 1 = -(1 - e) := by omega
           rw [e', Int.neg_tdiv, Int.tdiv_eq_ediv_of_nonneg (by omega)]; omega)

theorem digs_cons {D : List Int} (h : Digs D) : Digs (0 :: D) := by
  intro x hx
  rcases List.mem_cons.1 hx with rfl | hx
  · omega
  · exact h x hx
theorem digs_snoc {D : List Int} (h : Digs D) : Digs (D ++ [0]) := by
  intro x hx
  rcases List.mem_append.1 hx with hx | hx
  · exact h x hx
  · rw [List.mem_singleton.1 hx]; omega

/-- The reference's form. -/
theorem bytes_f (D : List Int) (hg : Digs D) (hl : D.length ≤ 18) (h0 : 0 < D.length) (neg : Bool) (e : Int) (he : -100 ≤ e ∧ e ≤ 100) (k : Nat) (hk : 60 ≤ k) :
    spec_NumberBytes.f k D neg e = some (formOf neg (pairs10 (padded D e)) (powerOf e)) := by
  have hp := power_rng e he
  have stage : ∀ (d : List Int) (x9 : Int), Digs d → d.length ≤ 20 → -62 ≤ Int.tdiv x9 2 ∧ Int.tdiv x9 2 ≤ 62 →
      spec_NumberBytes.j0 k neg [] d x9 = some (formOf neg (pairs10 (if d.length % 2 = 1 then d ++ [0] else d)) (Int.tdiv x9 2)) := by
    intro d x9 hd hdl h9
    obtain ⟨k, rfl⟩ : ∃ m, k = m + 2 := ⟨k - 2, by omega⟩
    simp only [spec_NumberBytes.j0, spec_NumberBytes.j1]
    by_cases ho : d.length % 2 = 1
    · rw [if_pos (by omega), if_pos (by omega), if_pos ho]
      exact bytes_l0 (d ++ [0]) (digs_snoc hd) (by rw [List.length_append]; simp; omega) (by rw [List.length_append]; simp; omega) neg x9 h9 ((d.length + 1) / 2) k [] 0 (by rw [List.length_append]; simp; omega) (by omega) (by omega) rfl
    · rw [if_neg (by omega), if_neg ho]
      exact bytes_l0 d hd (by omega) (by omega) neg x9 h9 (d.length / 2) k [] 0 (by omega) (by omega) (by omega) rfl
  unfold spec_NumberBytes.f
  rw [if_neg (by omega)]
  simp only [Option.bind_some, List.nil_append, List.length_nil, Nat.zero_add]
  rw [if_pos (by omega)]
  unfold padded powerOf
  by_cases hev : Int.tmod e 2 = 0
  · rw [if_pos hev, if_pos hev, if_pos hev]
    simp only [List.length_cons, List.length_nil]
    rw [if_pos (by omega)]
    have := stage (0 :: D) e (digs_cons hg) (by simp; omega) (by unfold powerOf at hp; rwa [if_pos hev] at hp)
    exact this
  · rw [if_neg hev, if_neg hev, if_neg hev, wrap_id (e - 1) (by omega)]
    exact stage D (e - 1) hg (by omega) (by unfold powerOf at hp; rwa [if_neg hev] at hp)

theorem pair_neg (a b : Int) (ha : 0 ≤ a ∧ a ≤ 9) (hb : 0 ≤ b ∧ b ≤ 9) : pairB true (48 + a) (48 + b) = 101 - (10 * a + b) := by
  unfold pairB; simp only [if_true]; omega
theorem pair_pos (a b : Int) (ha : 0 ≤ a ∧ a ≤ 9) (hb : 0 ≤ b ∧ b ≤ 9) : pairB false (48 + a) (48 + b) = 10 * a + b + 1 := by
  unfold pairB; simp only [Bool.false_eq_true, if_false]; omega
theorem one_neg (a : Int) (ha : 0 ≤ a ∧ a ≤ 9) : oneB true (48 + a) = 101 - (10 * a + 0) := by
  unfold oneB; simp only [if_true]; omega
theorem one_pos (a : Int) (ha : 0 ≤ a ∧ a ≤ 9) : oneB false (48 + a) = 10 * a + 0 + 1 := by
  unfold oneB; simp only [Bool.false_eq_true, if_false]; omega
theorem pairs_lets (neg : Bool) : ∀ d : List Int, Digs d → pairs neg (lets d) = (pairs10 (if d.length % 2 = 1 then d ++ [0] else d)).map fun p => if neg then 101 - p else p + 1
  | [], _ => rfl
  | [a], h => by
    have ha := h a (by simp)
    cases neg
    · show [oneB false (48 + a)] = _
      rw [one_pos a ha]; rfl
    · show [oneB true (48 + a)] = _
      rw [one_neg a ha]; rfl
  | a :: b :: t, h => by
    have ha := h a (by simp)
    have hb := h b (by simp)
    have ih := pairs_lets neg t (fun x hx => h x (by simp [hx]))
    have e : (if (a :: b :: t).length % 2 = 1 then (a :: b :: t) ++ [0] else a :: b :: t) = a :: b :: (if t.length % 2 = 1 then t ++ [0] else t) := by
      by_cases ht : t.length % 2 = 1
      · rw [if_pos (by simp only [List.length_cons]; omega), if_pos ht]; rfl
      · rw [if_neg (by simp only [List.length_cons]; omega), if_neg ht]
    rw [e]
    show pairB neg (48 + a) (48 + b) :: pairs neg (lets t) = _
    rw [ih, pairs10, List.map_cons]
    cases neg
    · rw [pair_pos a b ha hb]; simp
    · rw [pair_neg a b ha hb]; simp

theorem xor_small : ∀ n : Nat, n < 128 → Go.bits .xor .u8 (n : Int) 127 = 127 - (n : Int) := by decide +kernel
theorem or_small : ∀ n : Nat, n < 128 → Go.bits .or .u8 (n : Int) 128 = 128 + (n : Int) := by decide +kernel
theorem power_eq (e : Int) (he : -100 ≤ e ∧ e ≤ 100) : Int.tdiv (if e < 0 then e - 1 else e) 2 = powerOf e := by
  unfold powerOf
  by_cases h0 : e < 0
  · rw [if_pos h0]
    by_cases hev : Int.tmod e 2 = 0
    · rw [if_pos hev]
      have e1 : e - 1 = -(1 - e) := by omega
      have e2 : e = -(-e) := by omega
      have e3 : Int.tdiv e 2 = -((-e) / 2) := by
        conv => lhs; rw [e2]
        rw [Int.neg_tdiv, Int.tdiv_eq_ediv_of_nonneg (by omega)]
      have e4 : Int.tdiv (e - 1) 2 = -((1 - e) / 2) := by rw [e1, Int.neg_tdiv, Int.tdiv_eq_ediv_of_nonneg (by omega)]
      have e5 : Int.tmod e 2 = -((-e) % 2) := by
        conv => lhs; rw [e2]
        rw [Int.neg_tmod, Int.tmod_eq_emod_of_nonneg (by omega)]
      rw [e3, e4]
      omega
    · rw [if_neg hev]
  · rw [if_neg h0]
    by_cases hev : Int.tmod e 2 = 0
    · rw [if_pos hev]
    · rw [if_neg hev]
      rw [Int.tmod_eq_emod_of_nonneg (by omega)] at hev
      rw [Int.tdiv_eq_ediv_of_nonneg (by omega), Int.tdiv_eq_ediv_of_nonneg (by omega)]
      omega
theorem head_eq (neg : Bool) (e : Int) (he : -100 ≤ e ∧ e ≤ 100) : headB neg e = if neg then 62 - powerOf e else 193 + powerOf e := by
  have hp := power_rng e he
  unfold headB
  rw [power_eq e he]
  generalize powerOf e = p at *
  obtain ⟨n, hn⟩ := Int.eq_ofNat_of_zero_le (show 0 ≤ p + 65 by omega)
  have e1 : (p + 1 + 64) % 256 = (n : Int) := by omega
  simp only [e1]
  cases neg
  · rw [if_neg (by simp), if_neg (by simp), or_small n (by omega)]; omega
  · rw [if_pos rfl, if_pos rfl, xor_small n (by omega)]; omega

/-- The package's form is the reference's. -/
theorem toNum_lets (D : List Int) (hg : Digs D) (hl : D.length ≤ 18) (h0 : 0 < D.length) (neg : Bool) (e : Int) (he : -100 ≤ e ∧ e ≤ 100) :
    toNum (lets D) neg e = formOf neg (pairs10 (padded D e)) (powerOf e) := by
  have hev : evened (lets D) e = lets (if Int.tmod e 2 = 0 then 0 :: D else D) := by
    unfold evened
    split
    · rfl
    · rfl
  have hd : Digs (if Int.tmod e 2 = 0 then 0 :: D else D) := by split; exact digs_cons hg; exact hg
  have hdl : (if Int.tmod e 2 = 0 then 0 :: D else D).length ≤ 19 := by
    split
    · simp only [List.length_cons]; omega
    · omega
  unfold toNum
  rw [if_neg (by rw [lets_length]; omega), hev, pairs_lets neg _ hd, head_eq neg e he, lets_length]
  show _ = formOf neg (pairs10 (if (if Int.tmod e 2 = 0 then 0 :: D else D).length % 2 = 1 then (if Int.tmod e 2 = 0 then 0 :: D else D) ++ [0] else (if Int.tmod e 2 = 0 then 0 :: D else D))) (powerOf e)
  generalize (if Int.tmod e 2 = 0 then 0 :: D else D) = d at *
  unfold formOf
  cases neg
  · simp
  · simp; omega

theorem clone_f (l : List Int) (h : l.length < 1000) : bytes_Clone.f l = some l := by unfold bytes_Clone.f; rw [if_pos (by omega)]
theorem made_f (D : List Int) (hl : D.length ≤ 18) (neg : Bool) (e : Int) (he : -100 ≤ e ∧ e ≤ 100) : impl_NumberMade.f (lets D) neg e = some (toNum (lets D) neg e) := by
  unfold impl_NumberMade.f
  rw [clone_f _ (by rw [lets_length]; omega)]
  simp only [Option.bind_some]
  unfold converters_ToNumber.f
  rw [if_pos (by rw [lets_length]; omega), if_pos (by omega)]
  rfl
end Go.Proofs.YtepooaejlofkkaaDoor.Pure
