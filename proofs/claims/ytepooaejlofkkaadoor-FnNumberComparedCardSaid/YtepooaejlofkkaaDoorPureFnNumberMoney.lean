/- The pure law of FnNumberMoney: what is made of an amount is taken apart as the amount. -/
import Derived.Test.YtepooaejlofkkaaDoorPureFnNumberDecimals
namespace Go.Proofs.YtepooaejlofkkaaDoor.Pure
open Go Go.RowKit Go.Proofs.YtepooaejlofkkaaDoor Go.Proofs.YtepooaejlofkkaaDoor.X Go.Proofs.YtepooaejlofkkaaDoor.ZN Go.Proofs.YtepooaejlofkkaaDoorW.PrintWords Go.Proofs.YtepooaejlofkkaaDoorW.PrintLast Go.Proofs.YtepooaejlofkkaaDoorW.PrintMore
set_option linter.unusedVariables false
set_option linter.unusedSimpArgs false

/-- The decimal digits of a number; none of 0. -/
def digs (u : Nat) : List Int := if h : u = 0 then [] else digs (u / 10) ++ [((u % 10 : Nat) : Int)]
termination_by u
decreasing_by omega
theorem digs_zero : digs 0 = [] := by rw [digs, dif_pos rfl]
theorem digs_pos {u : Nat} (h : u ≠ 0) : digs u = digs (u / 10) ++ [((u % 10 : Nat) : Int)] := by rw [digs, dif_neg h]
theorem digs_digs (u : Nat) : Digs (digs u) := by
  induction u using Nat.strongRecOn with
  | _ u ih =>
    by_cases h : u = 0
    · subst h; rw [digs_zero]; intro x hx; cases hx
    · rw [digs_pos h]
      intro x hx
      rcases List.mem_append.1 hx with hx | hx
      · exact ih (u / 10) (by omega) x hx
      · rw [List.mem_singleton.1 hx]; omega
theorem digs_len (u : Nat) : ∀ m : Nat, u < 10 ^ m → (digs u).length ≤ m := by
  induction u using Nat.strongRecOn with
  | _ u ih =>
    intro m hm
    by_cases h : u = 0
    · subst h; rw [digs_zero]; simp
    · rw [digs_pos h, List.length_append]
      match m, hm with
      | 0, hm => simp at hm; omega
      | m + 1, hm =>
        have := ih (u / 10) (by omega) m (by rw [Nat.pow_succ] at hm; omega)
        simp only [List.length_cons, List.length_nil]; omega
theorem digs_first (u : Nat) (h : u ≠ 0) : 0 < (digs u).length ∧ (digs u).getD 0 0 ≠ 0 := by
  induction u using Nat.strongRecOn with
  | _ u ih =>
    rw [digs_pos h]
    by_cases h1 : u / 10 = 0
    · rw [h1, digs_zero]
      refine ⟨by simp, ?_⟩
      show ((u % 10 : Nat) : Int) ≠ 0
      omega
    · obtain ⟨hl, hf⟩ := ih (u / 10) (by omega) h1
      refine ⟨by rw [List.length_append]; omega, ?_⟩
      rw [List.getD_eq_getElem?_getD, List.getElem?_append_left hl, ← List.getD_eq_getElem?_getD]
      exact hf
/-- The number of digits. -/
def valD (l : List Int) : Int := l.foldl (fun a d => 10 * a + d) 0
theorem valD_snoc (l : List Int) (d : Int) : valD (l ++ [d]) = 10 * valD l + d := by unfold valD; rw [List.foldl_append]; rfl
theorem valD_digs (u : Nat) : valD (digs u) = (u : Int) := by
  induction u using Nat.strongRecOn with
  | _ u ih =>
    by_cases h : u = 0
    · subst h; rw [digs_zero]; rfl
    · rw [digs_pos h, valD_snoc, ih (u / 10) (by omega)]; omega
theorem digs_ten (u : Nat) (h : u ≠ 0) : digs (10 * u) = digs u ++ [0] := by
  rw [digs_pos (by omega), show 10 * u / 10 = u from by omega, show 10 * u % 10 = 0 from by omega]; rfl

/-- Without the noughts at the end. -/
def stripT (l : List Int) : List Int := (l.reverse.dropWhile (· == 0)).reverse
theorem stripT_snoc (l : List Int) (x : Int) : stripT (l ++ [x]) = if x = 0 then stripT l else l ++ [x] := by
  unfold stripT
  rw [List.reverse_append]
  simp only [List.reverse_cons, List.reverse_nil, List.nil_append, List.singleton_append, List.dropWhile_cons]
  by_cases h : x = 0
  · simp [h]
  · simp [h]
theorem stripT_nil : stripT [] = [] := rfl
theorem stripT_eq (n : Nat) : ∀ l : List Int, l.length = n → ∃ z, l = stripT l ++ List.replicate z 0 := by
  induction n with
  | zero => intro l hl; rw [List.eq_nil_of_length_eq_zero hl]; exact ⟨0, rfl⟩
  | succ n ih =>
    intro l hl
    rcases List.eq_nil_or_concat l with rfl | ⟨m, x, rfl⟩
    · exact ⟨0, rfl⟩
    · rw [List.concat_eq_append] at *
      rw [stripT_snoc]
      by_cases h : x = 0
      · rw [if_pos h]
        obtain ⟨z, hz⟩ := ih m (by simpa using hl)
        refine ⟨z + 1, ?_⟩
        conv => lhs; rw [hz]
        rw [h, List.replicate_succ', List.append_assoc]
      · rw [if_neg h]; exact ⟨0, by simp⟩
theorem stripT_last (n : Nat) : ∀ l : List Int, l.length = n → 0 < (stripT l).length → (stripT l).getD ((stripT l).length - 1) 0 ≠ 0 := by
  induction n with
  | zero => intro l hl h; rw [List.eq_nil_of_length_eq_zero hl] at h; simp [stripT] at h
  | succ n ih =>
    intro l hl
    rcases List.eq_nil_or_concat l with rfl | ⟨m, x, rfl⟩
    · simp at hl
    · rw [List.concat_eq_append] at *
      rw [stripT_snoc]
      by_cases h : x = 0
      · rw [if_pos h]; exact ih m (by simpa using hl)
      · rw [if_neg h]
        intro _
        simpa using h
theorem stripT_self (l : List Int) (h : 0 < l.length → l.getD (l.length - 1) 0 ≠ 0) : stripT l = l := by
  rcases List.eq_nil_or_concat l with rfl | ⟨m, x, rfl⟩
  · rfl
  · rw [List.concat_eq_append] at *
    have := h (by simp)
    rw [stripT_snoc, if_neg (by simpa using this)]

theorem nd_l1 (n : Nat) : ∀ (k : Nat) (l : List Int) (x : Int), l.length = n → n < k → n ≤ 100 → spec_NumberDigits.l1 k l x = some (stripT l, x) := by
  induction n with
  | zero =>
    intro k l x hl hk hn
    obtain ⟨k, rfl⟩ : ∃ m, k = m + 1 := ⟨k - 1, by omega⟩
    rw [spec_NumberDigits.l1, if_neg (by omega), List.eq_nil_of_length_eq_zero hl]
    rfl
  | succ n ih =>
    intro k l x hl hk hn
    obtain ⟨k, rfl⟩ : ∃ m, k = m + 1 := ⟨k - 1, by omega⟩
    rcases List.eq_nil_or_concat l with rfl | ⟨m, y, rfl⟩
    · simp at hl
    · rw [List.concat_eq_append] at *
      have hm : m.length = n := by simpa using hl
      have e : wrap64 (((m ++ [y]).length : Int) - 1) = (n : Int) := by rw [wrap_id _ (by omega)]; omega
      have e2 : (m ++ [y]).getD n 0 = y := by rw [← hm]; simp
      rw [spec_NumberDigits.l1, if_pos (by omega), e, if_pos (by omega), if_pos (by omega), rd_nat, e2, stripT_snoc]
      by_cases h : y = 0
      · rw [if_pos h, if_pos h, if_pos (by omega), Int.toNat_natCast, ← hm, List.take_left']
        · exact ih k m x hm (by omega) (by omega)
        · rfl
      · rw [if_neg h, if_neg h]
theorem nd_l0 (u : Nat) : ∀ (k : Nat) (acc : List Int), u ≤ 18446744073709551615 → (digs u ++ acc).length ≤ 60 → (digs u).length + (digs u ++ acc).length + 5 < k → (digs u).length ≤ 40 →
    spec_NumberDigits.l0 k (u : Int) acc = some (stripT (digs u ++ acc), ((digs u ++ acc).length : Int) - 1) := by
  induction u using Nat.strongRecOn with
  | _ u ih =>
    intro k acc hu hl hk hd
    obtain ⟨k, rfl⟩ : ∃ m, k = m + 1 := ⟨k - 1, by omega⟩
    rw [spec_NumberDigits.l0]
    by_cases h : u = 0
    · subst h
      rw [digs_zero] at *
      rw [if_neg (by omega), List.nil_append, wrap_id _ (by simp only [List.nil_append] at hl; omega)]
      simp only [List.nil_append] at hl hk
      exact nd_l1 acc.length k acc _ rfl (by omega) (by omega)
    · have hp := digs_pos h
      simp only [hp, List.length_append, List.length_cons, List.length_nil] at hl hk hd
      have e1 : Int.tmod (u : Int) 10 % 256 = ((u % 10 : Nat) : Int) := by rw [Int.tmod_eq_emod_of_nonneg (by omega)]; omega
      have e2 : Int.tdiv (u : Int) 10 = ((u / 10 : Nat) : Int) := by rw [Int.tdiv_eq_ediv_of_nonneg (by omega)]; omega
      rw [if_pos (by omega), e1, e2, u64_id _ (by omega)]
      simp only [Option.bind_some, List.length_cons, List.length_nil]
      rw [if_pos (by omega), ih (u / 10) (by omega) k _ (by omega) (by simp only [List.length_append, List.length_cons, List.length_nil]; omega) (by simp only [List.length_append, List.length_cons, List.length_nil]; omega) (by omega)]
      rw [hp, List.append_assoc]
theorem nd_f (u : Nat) (hu : u < 10 ^ 18) (k : Nat) (hk : 100 ≤ k) : spec_NumberDigits.f k (u : Int) = some (stripT (digs u), ((digs u).length : Int) - 1) := by
  unfold spec_NumberDigits.f
  have hl := digs_len u 18 hu
  have := nd_l0 u k [] (by omega) (by rw [List.append_nil]; omega) (by rw [List.append_nil]; omega) (by omega)
  rw [List.append_nil] at this
  exact this

/-! ### taken apart -/
def val100 (m : Int) (P : List Int) : Int := P.foldl (fun a p => 100 * a + p) m
theorem mant_ok (m d : Int) (h0 : 0 ≤ m) (h1 : m < 1000000000000000) (d0 : 0 ≤ d) (d1 : d ≤ 9) : converters_addDigitToMantissa.f m d = some (m * 10 + d, false) := by
  unfold converters_addDigitToMantissa.f mantF
  rw [if_pos (by omega), if_pos (by omega), if_pos (by omega)]
/-- The byte of a pair. -/
def pb (neg : Bool) (p : Int) : Int := if neg then 101 - p else p + 1
theorem from_l0 (neg : Bool) (ex : Int) (hex : -200 ≤ ex ∧ ex ≤ 200) (P : List Int) (hP : ∀ p ∈ P, 0 ≤ p ∧ p ≤ 99) (hl : P.length ≤ 8) (B : List Int) (hBl : B.length = P.length) (hB : ∀ i, i < P.length → B.getD i 0 = pb neg (P.getD i 0)) (d : Nat) : ∀ (k : Nat) (m x9 : Int) (i : Nat), P.length - i = d → i ≤ P.length → 3 * d < k → 0 ≤ m → m < 100 ^ i → -10 ≤ x9 ∧ x9 ≤ 10 →
    ∃ z, converters_FromNumber.l0 k m neg ex ((2 * i : Nat) : Int) x9 B (B.length : Int) (i : Int) = some (val100 m (P.drop i), neg, 2 * ex - ((2 * P.length : Nat) : Int), z, none) := by
  induction d with
  | zero =>
    intro k m x9 i hd hi hk h0 h1 h9
    obtain ⟨k, rfl⟩ : ∃ m, k = m + 1 := ⟨k - 1, by omega⟩
    rw [converters_FromNumber.l0, if_neg (by omega), List.drop_of_length_le (by omega), wrap_id (ex * 2) (by omega), wrap_id _ (by omega), show ex * 2 - ((2 * i : Nat) : Int) = 2 * ex - ((2 * P.length : Nat) : Int) from by omega]
    exact ⟨_, rfl⟩
  | succ d ih =>
    intro k m x9 i hd hi hk h0 h1 h9
    obtain ⟨k, rfl⟩ : ∃ m, k = m + 3 := ⟨k - 3, by omega⟩
    have c1 : (i : Int) < (B.length : Int) := by omega
    have c2 : 0 ≤ (i : Int) := by omega
    have hdr : P.drop i = P.getD i 0 :: P.drop (i + 1) := by
      rw [List.drop_eq_getElem_cons (by omega), List.getD_eq_getElem?_getD, List.getElem?_eq_getElem (by omega)]; rfl
    have hg : 0 ≤ P.getD i 0 ∧ P.getD i 0 ≤ 99 := hP _ (List.mem_of_mem_drop (i := i) (by rw [hdr]; simp))
    have hrd := hB i (by omega)
    have hm14 : m < 100000000000000 := by
      have : (100 : Int) ^ i ≤ 100 ^ 7 := by
        have := Nat.pow_le_pow_right (show 0 < 100 by omega) (show i ≤ 7 by omega)
        exact_mod_cast this
      have e : (100 : Int) ^ 7 = 100000000000000 := by decide
      omega
    have e5 : wrap64 ((i : Int) + 1) = ((i + 1 : Nat) : Int) := by rw [wrap_id _ (by omega)]; omega
    have key : ∀ x9', -10 ≤ x9' ∧ x9' ≤ 10 → ∃ z, converters_FromNumber.j4 (k + 2) m neg ex ((2 * i : Nat) : Int) x9' (pb neg (P.getD i 0)) B (B.length : Int) (i : Int) = some (val100 m (P.drop i), neg, 2 * ex - ((2 * P.length : Nat) : Int), z, none) := by
      intro x9' h9'
      generalize hp : P.getD i 0 = p at *
      have hpow : 100 * m + p < 100 ^ (i + 1) := by
        rw [Int.pow_succ]
        generalize (100 : Int) ^ i = t at *
        omega
      have H1 := Lib.hid h1
      clear h1
      have step : ∃ z, converters_FromNumber.j5 (k + 1) m neg ex ((2 * i : Nat) : Int) x9' p B (B.length : Int) (i : Int) = some (val100 m (P.drop i), neg, 2 * ex - ((2 * P.length : Nat) : Int), z, none) := by
        simp only [converters_FromNumber.j5]
        have e1 : Int.tdiv p 10 % 256 = p / 10 := by rw [Int.tdiv_eq_ediv_of_nonneg hg.1]; omega
        have e2 : Int.tmod p 10 = p % 10 := Int.tmod_eq_emod_of_nonneg hg.1
        have q1 := mant_ok m (p / 10) h0 (by omega) (by omega) (by omega)
        have q2 := mant_ok (m * 10 + p / 10) (p % 10) (by omega) (by omega) (by omega) (by omega)
        rw [e1, e2, q1]
        simp only [Option.bind_some, Bool.false_eq_true, if_false]
        rw [q2]
        simp only [Option.bind_some, Bool.false_eq_true, if_false]
        rw [wrap_id (((2 * i : Nat) : Int) + 1) (by omega), wrap_id (((2 * i : Nat) : Int) + 1 + 1) (by omega), e5, show ((2 * i : Nat) : Int) + 1 + 1 = ((2 * (i + 1) : Nat) : Int) from by omega, show (m * 10 + p / 10) * 10 + p % 10 = 100 * m + p from by omega]
        obtain ⟨z, hz⟩ := ih k (100 * m + p) x9' (i + 1) (by omega) (by omega) (by omega) (by omega) hpow h9'
        refine ⟨z, ?_⟩
        rw [hz, hdr]
        rfl
      simp only [converters_FromNumber.j4]
      cases neg with
      | true =>
        rw [if_pos rfl, show (100 - (pb true p - 1) % 256) % 256 = p from by unfold pb; simp only [if_true]; omega]
        exact step
      | false =>
        rw [if_neg (by simp), show (pb false p - 1) % 256 = p from by unfold pb; simp only [Bool.false_eq_true, if_false]; omega]
        exact step
    clear h1 hm14 ih
    rw [converters_FromNumber.l0, if_pos c1, if_pos c2, if_pos c1, rd_nat, hrd]
    by_cases hi0 : (i : Int) = 0
    · rw [if_pos hi0]; exact key (-1) (by omega)
    · rw [if_neg hi0]; exact key x9 h9

theorem and_small : ∀ n : Nat, n < 128 → Go.bits .and .u8 (n : Int) 128 = 0 := by decide +kernel
theorem and_great : ∀ n : Nat, n < 128 → Go.bits .and .u8 ((n + 128 : Nat) : Int) 128 = 128 ∧ Go.bits .and .u8 ((n + 128 : Nat) : Int) 127 = (n : Int) := by decide +kernel

theorem form_map (neg : Bool) (P : List Int) (pw : Int) : formOf neg P pw = (if neg then 62 - pw else 193 + pw) :: (P.map (pb neg) ++ if neg then [102] else []) := by
  cases neg
  · simp [formOf, pb]
  · simp [formOf, pb]
theorem taken_f (neg : Bool) (P : List Int) (hP : ∀ p ∈ P, 0 ≤ p ∧ p ≤ 99) (hl : P.length ≤ 8) (pw : Int) (hpw : -62 ≤ pw ∧ pw ≤ 62) (k : Nat) (hk : 60 ≤ k) :
    ∃ z, converters_FromNumber.f k (formOf neg P pw) = some (val100 0 P, neg, 2 * (pw + 1) - ((2 * P.length : Nat) : Int), z, none) := by
  obtain ⟨k, rfl⟩ : ∃ m, k = m + 3 := ⟨k - 3, by omega⟩
  obtain ⟨z, hz⟩ := from_l0 neg (pw + 1) (by omega) P hP hl (P.map (pb neg)) (List.length_map _) (fun i hi => by simp only [List.getD_eq_getElem?_getD, List.getElem?_map, List.getElem?_eq_getElem hi]; rfl) P.length k 0 0 0 (by omega) (by omega) (by omega) (by omega) (by simp) (by omega)
  refine ⟨z, ?_⟩
  rw [List.drop_zero] at hz
  have hz' : converters_FromNumber.j2 (k + 1) 0 neg (pw + 1) (P.map (pb neg)) = some (val100 0 P, neg, 2 * (pw + 1) - ((2 * P.length : Nat) : Int), z, none) := by
    rw [converters_FromNumber.j2]; exact hz
  rw [form_map]
  generalize hB : P.map (pb neg) = B at *
  have hBl : B.length ≤ 8 := by rw [← hB, List.length_map]; exact hl
  unfold converters_FromNumber.f
  cases neg with
  | true =>
    simp only [if_true]
    obtain ⟨n, hn⟩ := Int.eq_ofNat_of_zero_le (show 0 ≤ 62 - pw by omega)
    have e0 : rd ((62 - pw) :: (B ++ [102])) 0 = (n : Int) := by show 62 - pw = _; exact hn
    have hlen : (((62 - pw) :: (B ++ [102])).length : Int) = (B.length : Int) + 2 := by simp only [List.length_cons, List.length_append, List.length_nil]; omega
    rw [if_neg (by omega), if_pos (by omega), e0, if_neg (by omega), if_pos (and_small n (by omega)), and_small n (by omega), xor_small n (by omega), wrap_id (127 - (n : Int)) (by omega), wrap_id (127 - (n : Int) - 64) (by omega), show 127 - (n : Int) - 64 = pw + 1 from by omega]
    show converters_FromNumber.j0 (k + 3) _ 0 true (pw + 1) = _
    rw [converters_FromNumber.j0, if_pos (by omega)]
    simp only [Option.bind_some, if_true]
    rw [hlen, show wrap64 ((B.length : Int) + 2 - 1) = ((B.length + 1 : Nat) : Int) from by rw [wrap_id _ (by omega)]; omega, if_pos (by omega), if_pos (by omega), rd_nat]
    have e1 : ((62 - pw) :: (B ++ [102])).getD (B.length + 1) 0 = 102 := by simp
    rw [e1, show ((102 : Int) == 102) = true from rfl, converters_FromNumber.j1, if_pos rfl, hlen, show wrap64 ((B.length : Int) + 2 - 1) = ((B.length + 1 : Nat) : Int) from by rw [wrap_id _ (by omega)]; omega, if_pos (by omega), if_pos (by omega), Int.toNat_natCast]
    have e2 : (((62 - pw) :: (B ++ [102])).take (B.length + 1)).drop 1 = B := by simp
    rw [e2]
    exact hz'
  | false =>
    simp only [Bool.false_eq_true, if_false, List.append_nil]
    obtain ⟨n, hn⟩ := Int.eq_ofNat_of_zero_le (show 0 ≤ 193 + pw - 128 by omega)
    have e0 : rd ((193 + pw) :: B) 0 = ((n + 128 : Nat) : Int) := by show 193 + pw = _; omega
    have hlen : (((193 + pw) :: B).length : Int) = (B.length : Int) + 1 := by simp
    have ha := and_great n (by omega)
    rw [if_neg (by omega), if_pos (by omega), e0, if_neg (by omega), ha.1, ha.2, if_neg (by omega), wrap_id (n : Int) (by omega), wrap_id ((n : Int) - 64) (by omega), show (n : Int) - 64 = pw + 1 from by omega]
    show converters_FromNumber.j0 (k + 3) _ 0 false (pw + 1) = _
    rw [converters_FromNumber.j0, if_pos (by omega)]
    simp only [Option.bind_some, Bool.false_eq_true, if_false]
    rw [converters_FromNumber.j1, if_neg (by simp)]
    exact hz'

theorem val100_pairs : ∀ (l : List Int) (a : Int), l.length % 2 = 0 → val100 a (pairs10 l) = l.foldl (fun a d => 10 * a + d) a
  | [], a, _ => rfl
  | [x], a, h => by simp at h
  | x :: y :: t, a, h => by
    have := val100_pairs t (100 * a + (10 * x + y)) (by simp only [List.length_cons] at h; omega)
    show val100 (100 * a + (10 * x + y)) (pairs10 t) = t.foldl (fun a d => 10 * a + d) (10 * (10 * a + x) + y)
    rw [this]
    congr 1
    omega
theorem pad_len (d : List Int) : (pad d).length % 2 = 0 ∧ (pad d).length = d.length + d.length % 2 := by
  unfold pad
  split
  · simp only [List.length_append, List.length_cons, List.length_nil]; omega
  · omega
/-- A number whose digits end in noughts, told by those ahead of them. -/
theorem digs_unique (u : Nat) : ∀ (D : List Int) (z : Nat), digs u = D ++ List.replicate z 0 → ∃ v : Nat, digs v = D ∧ u = v * 10 ^ z := by
  induction u using Nat.strongRecOn with
  | _ u ih =>
    intro D z h
    match z with
    | 0 => exact ⟨u, by simpa using h, by simp⟩
    | z + 1 =>
      by_cases hu : u = 0
      · subst hu
        rw [digs_zero] at h
        have := congrArg List.length h
        simp at this
      · rw [digs_pos hu, List.replicate_succ', ← List.append_assoc] at h
        obtain ⟨h1, h2⟩ := List.append_inj' h rfl
        have h3 : ((u % 10 : Nat) : Int) = 0 := by simpa using h2
        obtain ⟨v, hv, he⟩ := ih (u / 10) (by omega) D z h1
        refine ⟨v, hv, ?_⟩
        rw [Nat.pow_succ, ← Nat.mul_assoc, ← he]
        omega

theorem FnNumberMoney (a0 : Int) (w0 : (Lit.int .i64 a0).wf = true) : ∃ k, laws_FnNumberMoney.f k a0 = some true := by
  have hr : -9223372036854775808 ≤ a0 ∧ a0 ≤ 9223372036854775807 := rng w0
  refine ⟨200, ?_⟩
  have hn : -1000000000000000 < Int.tmod a0 1000000000000000 ∧ Int.tmod a0 1000000000000000 < 1000000000000000 := by
    by_cases h0 : 0 ≤ a0
    · rw [Int.tmod_eq_emod_of_nonneg h0]; omega
    · have e : a0 = -(-a0) := by omega
      rw [e, Int.neg_tmod, Int.tmod_eq_emod_of_nonneg (by omega)]; omega
  unfold laws_FnNumberMoney.f
  generalize Int.tmod a0 1000000000000000 = n at *
  obtain ⟨u, hu⟩ : ∃ u : Nat, u = n.natAbs := ⟨_, rfl⟩
  have hsz : laws_numberSize.f n = some (u : Int) := by
    unfold laws_numberSize.f
    split
    · rw [IntKind.wrap_u64, IntKind.wrap_u64]; congr 1; omega
    · rw [IntKind.wrap_u64]; congr 1; omega
  have hu15 : u < 10 ^ 15 := by omega
  have hA := awake_k 200 (by omega)
  rw [hsz]
  simp only [Option.bind_some]
  rw [nd_f u (Nat.lt_of_lt_of_le hu15 (Nat.pow_le_pow_right (by omega) (by omega))) 200 (by omega)]
  simp only [Option.bind_some]
  by_cases h0 : n = 0
  · rw [if_pos h0, hA]; rfl
  · rw [if_neg h0]
    have hu0 : u ≠ 0 := by omega
    have hlu := digs_len u 15 hu15
    obtain ⟨z, hz⟩ := stripT_eq _ (digs u) rfl
    have hlast := stripT_last _ (digs u) rfl
    obtain ⟨hfl, hff⟩ := digs_first u hu0
    have hdg : Digs (stripT (digs u)) := fun x hx => digs_digs u x (by rw [hz]; exact List.mem_append_left _ hx)
    generalize hD : stripT (digs u) = D at *
    have hLen : (digs u).length = D.length + z := by rw [hz]; simp
    obtain ⟨v, hv, huv⟩ := digs_unique u D z hz
    have hv0 : v ≠ 0 := by rintro rfl; apply hu0; rw [huv]; simp
    have hDl : 0 < D.length := by rw [← hv]; exact (digs_first v hv0).1
    have hvle : v ≤ u := by rw [huv]; exact Nat.le_mul_of_pos_right v (Nat.pow_pos (by omega))
    obtain ⟨E, hE⟩ : ∃ E : Int, E = ((digs u).length : Int) - 1 - 2 := ⟨_, rfl⟩
    have hEr : -100 ≤ E ∧ E ≤ 100 := by omega
    rw [letters_f D hdg (by omega) 200 (by omega)]
    simp only [Option.bind_some]
    rw [wrap_id (((digs u).length : Int) - 1 - 2) (by omega), ← hE, made_f D (by omega) _ E hEr]
    simp only [Option.bind_some]
    rw [toNum_lets D hdg (by omega) hDl _ E hEr]
    have hpw := power_rng E hEr
    have hP := pairs10_rng _ (padded_digs hdg E)
    rw [power_floor] at hpw
    rw [power_floor]
    have hpad := padded_pad D E
    rw [hpad] at hP
    rw [hpad]
    obtain ⟨d, hd⟩ : ∃ d, d = (if E % 2 = 0 then 0 :: D else D) := ⟨_, rfl⟩
    rw [← hd] at hP
    rw [← hd]
    have hdl : d.length ≤ 16 := by
      rw [hd]
      split
      · simp only [List.length_cons]; omega
      · omega
    have hpl := pad_len d
    have hPl := pairs10_length (pad d)
    obtain ⟨zz, hfrom⟩ := taken_f (decide (n < 0)) (pairs10 (pad d)) hP (by omega) (E / 2) hpw 200 (by omega)
    have hT : impl_NumberTaken.f 200 (formOf (decide (n < 0)) (pairs10 (pad d)) (E / 2)) = some (val100 0 (pairs10 (pad d)), decide (n < 0), 2 * (E / 2 + 1) - ((2 * (pairs10 (pad d)).length : Nat) : Int), zz, true) := by
      unfold impl_NumberTaken.f
      rw [clone_f _ (by rw [form_map]; simp only [List.length_cons, List.length_append, List.length_map]; split <;> simp <;> omega)]
      simp only [Option.bind_some]
      rw [hfrom]
      simp
    rw [hT]
    simp only [Option.bind_some]
    -- the mantissa
    have hval : val100 0 (pairs10 (pad d)) = ((v * 10 ^ (d.length % 2) : Nat) : Int) := by
      rw [val100_pairs _ _ hpl.1]
      show valD (pad d) = _
      have hv1 : valD d = (v : Int) := by
        rw [hd, ← valD_digs v, hv]
        split
        · show valD (0 :: D) = valD D
          unfold valD
          rfl
        · rfl
      unfold pad
      split
      · rename_i ho
        rw [valD_snoc, hv1, ho]
        omega
      · rename_i ho
        rw [hv1, show d.length % 2 = 0 from by omega]
        simp
    rw [hval]
    have hdm : digs (v * 10 ^ (d.length % 2)) = D ++ List.replicate (d.length % 2) 0 := by
      rcases Nat.mod_two_eq_zero_or_one d.length with ho | ho
      · rw [ho]; simp [hv]
      · rw [ho, show v * 10 ^ 1 = 10 * v from by omega, digs_ten v hv0, hv]; rfl
    have hmu : v * 10 ^ (d.length % 2) < 10 ^ 18 := by
      rcases Nat.mod_two_eq_zero_or_one d.length with ho | ho <;> rw [ho] <;> omega
    rw [nd_f _ hmu 200 (by omega), hdm]
    simp only [Option.bind_some]
    have hst : stripT (D ++ List.replicate (d.length % 2) 0) = D := by
      rcases Nat.mod_two_eq_zero_or_one d.length with ho | ho
      · rw [ho]; simp only [List.replicate_zero, List.append_nil]; exact stripT_self D hlast
      · rw [ho]
        show stripT (D ++ [0]) = D
        rw [stripT_snoc, if_pos rfl]; exact stripT_self D hlast
    rw [hst]
    simp only [if_true, beq_self_eq_true]
    have hB : bytes_Equal.f D D = some true := by unfold bytes_Equal.f; rw [beq_self_eq_true]
    rw [hB]
    simp only [Option.bind_some, if_true]
    rw [wrap_id _ (by simp only [List.length_append, List.length_replicate]; omega), if_pos ?_, hA]
    · rfl
    · simp only [List.length_append, List.length_replicate]
      have : d.length = D.length + (if E % 2 = 0 then 1 else 0) := by rw [hd]; split <;> simp
      rw [hPl, hpl.2]
      split at this <;> omega
end Go.Proofs.YtepooaejlofkkaaDoor.Pure
