/- The pure law of FnNumberCompared. -/
import Derived.Test.YtepooaejlofkkaaDoorZC
import Derived.Test.YtepooaejlofkkaaDoorPureFnNumberMoney
namespace Go.Proofs.YtepooaejlofkkaaDoor.Pure
open Go Go.RowKit Go.Proofs.YtepooaejlofkkaaDoor Go.Proofs.YtepooaejlofkkaaDoor.X Go.Proofs.YtepooaejlofkkaaDoorW.PrintWords Go.Proofs.YtepooaejlofkkaaDoorW.PrintLast
set_option linter.unusedVariables false
set_option linter.unusedSimpArgs false
theorem cmpI_cmpZ : ∀ l m : List Int, cmpI l m = cmpZ l m
  | [], [] => rfl
  | [], _ :: _ => rfl
  | _ :: _, [] => rfl
  | a :: xs, b :: ys => by simp only [cmpI, cmpZ, cmpI_cmpZ xs ys]
/-- Digits without noughts at both ends. -/
structure NormI (D : List Int) : Prop where
  digs : Digs D
  first : 0 < D.length → D.getD 0 0 ≠ 0
  last : 0 < D.length → D.getD (D.length - 1) 0 ≠ 0
theorem first_smallI (D : List Int) (h : NormI D) (h0 : 0 < D.length) : ∃ p r, pairs10 (pad (0 :: D)) = p :: r ∧ p ≤ 9 := by
  match D, h0, h with
  | a :: t, _, h =>
    have := h.digs a (by simp)
    exact ⟨_, _, pairs_pad_two 0 a t, by omega⟩
theorem first_greatI (D : List Int) (h : NormI D) (h0 : 0 < D.length) : ∃ p r, pairs10 (pad D) = p :: r ∧ 10 ≤ p := by
  have hf := h.first h0
  match D, h0, h, hf with
  | [a], _, h, hf =>
    have := h.digs a (by simp)
    have hf' : a ≠ 0 := hf
    exact ⟨_, _, pairs_pad_one a, by omega⟩
  | a :: b :: t, _, h, hf =>
    have := h.digs a (by simp)
    have := h.digs b (by simp)
    have hf' : a ≠ 0 := hf
    exact ⟨_, _, pairs_pad_two a b t, by omega⟩

theorem cmp_formsI (D E : List Int) (hD : NormI D) (hE : NormI E) (d0 : 0 < D.length) (e0 : 0 < E.length) (p q : Int) :
    cmpZ (powerOf p :: pairs10 (padded D p)) (powerOf q :: pairs10 (padded E q)) = if p < q then -1 else if q < p then 1 else cmpZ D E := by
  have nD := nz_of D hD.last
  have nE := nz_of E hE.last
  rw [power_floor, power_floor, padded_pad, padded_pad]
  simp only [cmpZ]
  by_cases h1 : p < q
  · rw [if_pos h1]
    by_cases h2 : p / 2 < q / 2
    · rw [if_pos h2]
    · rw [if_neg h2, if_neg (by omega), if_pos (show p % 2 = 0 by omega), if_neg (show ¬ q % 2 = 0 by omega)]
      obtain ⟨a, r, e1, ha⟩ := first_smallI D hD d0
      obtain ⟨b, s, e2, hb⟩ := first_greatI E hE e0
      rw [e1, e2]
      simp only [cmpZ]
      rw [if_pos (by omega)]
  · rw [if_neg h1]
    by_cases h3 : q < p
    · rw [if_pos h3, if_neg (by omega)]
      by_cases h2 : q / 2 < p / 2
      · rw [if_pos h2]
      · rw [if_neg h2, if_neg (show ¬ p % 2 = 0 by omega), if_pos (show q % 2 = 0 by omega)]
        obtain ⟨a, r, e1, ha⟩ := first_greatI D hD d0
        obtain ⟨b, s, e2, hb⟩ := first_smallI E hE e0
        rw [e1, e2]
        simp only [cmpZ]
        rw [if_neg (by omega), if_pos (by omega)]
    · obtain rfl : p = q := by omega
      rw [if_neg h3, if_neg (by omega), if_neg (by omega)]
      by_cases h4 : p % 2 = 0
      · rw [if_pos h4, if_pos h4, cmp_pairs _ _ (digs_cons hD.digs) (digs_cons hE.digs) (nD.cons d0) (nE.cons e0)]
        simp only [cmpZ]
        rw [if_neg (by omega), if_neg (by omega)]
      · rw [if_neg h4, if_neg h4, cmp_pairs _ _ hD.digs hE.digs nD nE]

theorem toNum_letsI (D : List Int) (hg : Digs D) (hl : D.length ≤ 19) (h0 : 0 < D.length) (neg : Bool) (e : Int) (he : -100 ≤ e ∧ e ≤ 100) :
    toNum (lets D) neg e = formOf neg (pairs10 (padded D e)) (powerOf e) := by
  have hev : evened (lets D) e = lets (if Int.tmod e 2 = 0 then 0 :: D else D) := by
    unfold evened
    split
    · rfl
    · rfl
  have hd : Digs (if Int.tmod e 2 = 0 then 0 :: D else D) := by split; exact digs_cons hg; exact hg
  have hdl : (if Int.tmod e 2 = 0 then 0 :: D else D).length ≤ 20 := by
    split
    · simp only [List.length_cons]; omega
    · omega
  unfold toNum
  rw [if_neg (by rw [lets_length]; omega), hev, pairs_lets neg _ hd, head_eq neg e he, lets_length]
  show _ = formOf neg (pairs10 (if (if Int.tmod e 2 = 0 then 0 :: D else D).length % 2 = 1 then (if Int.tmod e 2 = 0 then 0 :: D else D) ++ [0] else (if Int.tmod e 2 = 0 then 0 :: D else D))) (powerOf e)
  generalize (if Int.tmod e 2 = 0 then 0 :: D else D) = d at *
  unfold formOf
  cases neg
  · simp
  · simp; omega


/-- The digits' letters. -/
theorem decD (u : Nat) (h : u ≠ 0) : (Lib.decDigits u).map (fun b => (b.toNat : Int)) = lets (digs u) := by
  induction u using Nat.strongRecOn with
  | _ u ih =>
    rw [Lib.decDigits]
    split
    · rename_i h1
      rw [digs_pos h, show u / 10 = 0 from by omega, digs_zero]
      simp only [lets, List.map_cons, List.map_nil, List.nil_append, UInt8.toNat_ofNat']
      congr 1
      omega
    · rename_i h1
      rw [List.map_append, ih (u / 10) (by omega) (by omega), digs_pos h]
      unfold lets
      rw [List.map_append]
      congr 1
      simp only [List.map_cons, List.map_nil, UInt8.toNat_ofNat']
      congr 1
      omega
theorem dg_lets (v : Int) (h : v ≠ 0) : dg v = lets (digs v.natAbs) := decD v.natAbs (by omega)
theorem trimZ_snoc (l : List Int) (x : Int) : trimZ (l ++ [x]) = if x = 48 then trimZ l else l ++ [x] := by
  unfold trimZ tzc
  rw [List.reverse_append]
  simp only [List.reverse_cons, List.reverse_nil, List.nil_append, List.singleton_append, List.takeWhile_cons]
  have hle := (List.takeWhile_sublist (fun x : Int => x == 48) (l := l.reverse)).length_le
  rw [List.length_reverse] at hle
  by_cases h : x = 48
  · have hb : (x == 48) = true := by rw [beq_iff_eq]; exact h
    rw [if_pos h, hb]
    simp only [if_true, List.length_cons, List.length_append, List.length_nil, Nat.zero_add, Nat.add_sub_add_right]
    rw [List.take_append_of_le_length (by omega)]
  · have hb : (x == 48) = false := by rw [beq_eq_false_iff_ne]; exact h
    rw [if_neg h, hb]
    simp
    exact List.take_of_length_le (by simp)
theorem trimZ_lets (n : Nat) : ∀ l : List Int, l.length = n → Digs l → trimZ (lets l) = lets (stripT l) := by
  induction n with
  | zero => intro l hl _; rw [List.eq_nil_of_length_eq_zero hl]; rfl
  | succ n ih =>
    intro l hl hg
    rcases List.eq_nil_or_concat l with rfl | ⟨m, x, rfl⟩
    · rfl
    · rw [List.concat_eq_append] at *
      have e : lets (m ++ [x]) = lets m ++ [48 + x] := by unfold lets; rw [List.map_append]; rfl
      rw [stripT_snoc, e, trimZ_snoc]
      have hx := hg x (by simp)
      by_cases h : x = 0
      · rw [if_pos h, if_pos (by omega)]
        exact ih m (by simpa using hl) (fun y hy => hg y (by simp [hy]))
      · rw [if_neg h, if_neg (by omega), e]
/-- What digits are worth, if the first one stands at the place n - 1. -/
def valN : Nat → List Int → Int
  | _, [] => 0
  | 0, _ :: _ => 0
  | n + 1, a :: t => a * 10 ^ n + valN n t
theorem p10 (n : Nat) : (0 : Int) < 10 ^ n := Int.pow_pos (by omega)
theorem digs_tail {a : Int} {t : List Int} (h : Digs (a :: t)) : (0 ≤ a ∧ a ≤ 9) ∧ Digs t := ⟨h a (by simp), fun x hx => h x (by simp [hx])⟩
theorem valN_rng : ∀ (n : Nat) (l : List Int), Digs l → 0 ≤ valN n l ∧ valN n l < 10 ^ n
  | n, [], _ => by cases n <;> exact ⟨Int.le_refl 0, p10 _⟩
  | 0, _ :: _, _ => ⟨Int.le_refl 0, by simp [valN]⟩
  | n + 1, a :: t, h => by
    obtain ⟨ha, ht⟩ := digs_tail h
    have ih := valN_rng n t ht
    have hp := p10 n
    simp only [valN]
    rw [Int.pow_succ]
    generalize (10 : Int) ^ n = p at *
    have h1 : 0 ≤ a * p := Int.mul_nonneg ha.1 (by omega)
    have h2 : a * p ≤ 9 * p := Int.mul_le_mul_of_nonneg_right ha.2 (by omega)
    omega
theorem valN_pos : ∀ (l : List Int) (n : Nat), Digs l → NZ l → 0 < l.length → l.length ≤ n → 0 < valN n l
  | [], _, _, _, h, _ => absurd h (by simp)
  | _ :: _, 0, _, _, _, h => absurd h (by simp)
  | [a], n + 1, hg, hz, _, _ => by
    obtain ⟨ha, _⟩ := digs_tail hg
    have hz' : a ≠ 0 := hz
    simp only [valN]
    have := Int.mul_pos (show 0 < a by omega) (p10 n)
    omega
  | a :: b :: t, n + 1, hg, hz, _, hl => by
    obtain ⟨ha, ht⟩ := digs_tail hg
    have ih := valN_pos (b :: t) n ht hz (by simp) (by simpa using hl)
    have := Int.mul_nonneg ha.1 (Int.le_of_lt (p10 n))
    rw [show valN (n + 1) (a :: b :: t) = a * 10 ^ n + valN n (b :: t) from rfl]
    omega
theorem cmp_val : ∀ (n : Nat) (l m : List Int), Digs l → Digs m → NZ l → NZ m → l.length ≤ n → m.length ≤ n → (cmpZ l m < 0 ↔ valN n l < valN n m) ∧ (0 < cmpZ l m ↔ valN n m < valN n l)
  | n, [], [], _, _, _, _, _, _ => by simp [cmpZ, valN]
  | n, [], b :: t, _, hm, _, zm, _, lm => by
    have := valN_pos (b :: t) n hm zm (by simp) lm
    rw [show valN n [] = 0 by cases n <;> rfl, show cmpZ [] (b :: t) = -1 from rfl]
    omega
  | n, a :: s, [], hl, _, zl, _, ll, _ => by
    have := valN_pos (a :: s) n hl zl (by simp) ll
    rw [show valN n [] = 0 by cases n <;> rfl, show cmpZ (a :: s) [] = 1 from rfl]
    omega
  | 0, _ :: _, _ :: _, _, _, _, _, h, _ => absurd h (by simp)
  | n + 1, a :: s, b :: t, hl, hm, zl, zm, ll, lm => by
    obtain ⟨ha, hs⟩ := digs_tail hl
    obtain ⟨hb, ht⟩ := digs_tail hm
    have ih := cmp_val n s t hs ht zl.tail zm.tail (by simpa using ll) (by simpa using lm)
    have r1 := valN_rng n s hs
    have r2 := valN_rng n t ht
    simp only [valN, cmpZ]
    generalize (10 : Int) ^ n = p at *
    rcases Int.lt_trichotomy a b with h | h | h
    · have : (a + 1) * p ≤ b * p := Int.mul_le_mul_of_nonneg_right (by omega) (by omega)
      rw [Int.add_mul] at this
      rw [if_pos h]
      omega
    · subst h
      rw [if_neg (by omega), if_neg (by omega)]
      omega
    · have : (b + 1) * p ≤ a * p := Int.mul_le_mul_of_nonneg_right (by omega) (by omega)
      rw [Int.add_mul] at this
      rw [if_neg (by omega), if_pos h]
      omega
theorem valN_noughts : ∀ (z n : Nat), valN n (List.replicate z 0) = 0
  | 0, n => by cases n <;> rfl
  | z + 1, 0 => rfl
  | z + 1, n + 1 => by rw [List.replicate_succ, valN, valN_noughts z n]; omega
theorem valN_strip : ∀ (l : List Int) (z n : Nat), valN n (l ++ List.replicate z 0) = valN n l
  | [], z, n => by rw [List.nil_append, valN_noughts]; cases n <;> rfl
  | a :: t, z, 0 => rfl
  | a :: t, z, n + 1 => by rw [List.cons_append, valN, valN, valN_strip t z n]
theorem valN_snoc : ∀ (l : List Int) (d : Int), valN (l.length + 1) (l ++ [d]) = 10 * valN l.length l + d
  | [], d => by simp [valN]
  | a :: t, d => by
    have ih := valN_snoc t d
    rw [List.cons_append, List.length_cons, valN, valN, ih, Int.pow_succ]
    generalize (10 : Int) ^ t.length = p
    rw [show a * (p * 10) = 10 * (a * p) from by rw [← Int.mul_assoc, Int.mul_comm]]
    omega
theorem valN_digs (u : Nat) : valN (digs u).length (digs u) = (u : Int) := by
  induction u using Nat.strongRecOn with
  | _ u ih =>
    by_cases h : u = 0
    · subst h; rw [digs_zero]; rfl
    · rw [digs_pos h, List.length_append]
      show valN ((digs (u / 10)).length + 1) _ = _
      rw [valN_snoc, ih (u / 10) (by omega)]
      omega
theorem digs_shorter (u v : Nat) (h : (digs u).length < (digs v).length) : u < v := by
  have h1 := (valN_rng (digs u).length (digs u) (digs_digs u)).2
  rw [valN_digs] at h1
  have hv : v ≠ 0 := fun e => by rw [e, digs_zero] at h; simp at h
  obtain ⟨hp, hf⟩ := digs_first v hv
  have h2 := valN_digs v
  match hd : digs v, hp, hf with
  | a :: t, _, hf =>
    rw [hd] at h h2
    have hg := digs_tail (hd ▸ digs_digs v)
    have hf' : a ≠ 0 := hf
    have h3 := (valN_rng t.length t hg.2).1
    have h4 : (digs u).length ≤ t.length := by simp only [List.length_cons] at h; omega
    have h5 : (10 : Int) ^ (digs u).length ≤ 10 ^ t.length := by
      obtain ⟨k, hk⟩ : ∃ k, t.length = (digs u).length + k := ⟨t.length - (digs u).length, by omega⟩
      rw [hk, Int.pow_add]
      have := Int.mul_le_mul_of_nonneg_left (show (1 : Int) ≤ 10 ^ k from by have := p10 k; omega) (Int.le_of_lt (p10 (digs u).length))
      omega
    have h6 : 1 * (10 : Int) ^ t.length ≤ a * 10 ^ t.length := Int.mul_le_mul_of_nonneg_right (by omega) (Int.le_of_lt (p10 _))
    rw [List.length_cons, valN] at h2
    omega
theorem strip_norm (u : Nat) (h : u ≠ 0) : NormI (stripT (digs u)) ∧ 0 < (stripT (digs u)).length ∧ (stripT (digs u)).length ≤ (digs u).length ∧ ∀ n, valN n (stripT (digs u)) = valN n (digs u) := by
  obtain ⟨z, hz⟩ := stripT_eq _ (digs u) rfl
  have hv := valN_digs u
  obtain ⟨hp, hf⟩ := digs_first u h
  have hpos : 0 < (stripT (digs u)).length := by
    rcases Nat.eq_zero_or_pos (stripT (digs u)).length with h0 | h0
    · rw [hz, List.eq_nil_of_length_eq_zero h0, List.nil_append, valN_noughts] at hv
      omega
    · exact h0
  have hle : (stripT (digs u)).length ≤ (digs u).length := by
    have := congrArg List.length hz
    rw [List.length_append] at this
    omega
  refine ⟨⟨fun x hx => digs_digs u x (by rw [hz]; exact List.mem_append_left _ hx), fun _ => ?_, fun h' => stripT_last _ _ rfl h'⟩, hpos, hle, fun n => ?_⟩
  · have : (digs u).getD 0 0 = (stripT (digs u)).getD 0 0 := by
      conv => lhs; rw [hz]
      rw [List.getD_eq_getElem?_getD, List.getElem?_append_left hpos, ← List.getD_eq_getElem?_getD]
    rw [← this]
    exact hf
  · conv => rhs; rw [hz]
    rw [valN_strip]
/-- The exponent of an integer's form. -/
def expo (v : Int) : Int := ((digs v.natAbs).length : Int) - 1
theorem digs19 (v : Int) (h0 : -9223372036854775808 ≤ v) (h1 : v ≤ 9223372036854775807) : (digs v.natAbs).length ≤ 19 := digs_len _ 19 (by omega)
theorem enc_form (v : Int) (h0 : -9223372036854775808 ≤ v) (h1 : v ≤ 9223372036854775807) (hv : v ≠ 0) :
    EncRes v = formOf (decide (v < 0)) (pairs10 (padded (stripT (digs v.natAbs)) (expo v))) (powerOf (expo v)) := by
  obtain ⟨hN, hp, hle, _⟩ := strip_norm v.natAbs (by omega)
  have h19 := digs19 v h0 h1
  unfold EncRes
  rw [dg_lets v hv, trimZ_lets _ _ rfl (digs_digs _), lets_length]
  have := toNum_letsI (stripT (digs v.natAbs)) hN.digs (by omega) hp (decide (v < 0)) (expo v) (by unfold expo; omega)
  rw [← this]
  rfl
theorem enc_zero : EncRes 0 = [128] := by decide +kernel
theorem expo_rng (v : Int) (h0 : -9223372036854775808 ≤ v) (h1 : v ≤ 9223372036854775807) (hv : v ≠ 0) : 0 ≤ expo v ∧ expo v ≤ 18 := by
  have := (digs_first v.natAbs (by omega)).1
  have := digs19 v h0 h1
  unfold expo
  omega
theorem enc_byt (v : Int) (h0 : -9223372036854775808 ≤ v) (h1 : v ≤ 9223372036854775807) : Byt (EncRes v) ∧ (EncRes v).length ≤ 100 := by
  by_cases hv : v = 0
  · subst hv; rw [enc_zero]; exact ⟨by decide, by decide⟩
  · obtain ⟨hN, hp, hle, _⟩ := strip_norm v.natAbs (by omega)
    have hr := expo_rng v h0 h1 hv
    have h19 := digs19 v h0 h1
    rw [enc_form v h0 h1 hv]
    refine ⟨form_byt _ _ _ (pairs10_rng _ (padded_digs hN.digs _)) (power_rng _ (by omega)), ?_⟩
    have hpl : (pairs10 (padded (stripT (digs v.natAbs)) (expo v))).length ≤ 20 := by
      rw [pairs10_length, padded_pad, (pad_len _).2]
      split
      · simp only [List.length_cons]; omega
      · omega
    unfold formOf
    split <;> simp <;> omega
/-- The order of two sizes. -/
theorem size_order (u v : Nat) (hu : u ≠ 0) (hv : v ≠ 0) (c : Int)
    (hc : c = if ((digs u).length : Int) - 1 < ((digs v).length : Int) - 1 then -1 else if ((digs v).length : Int) - 1 < ((digs u).length : Int) - 1 then 1 else cmpZ (stripT (digs u)) (stripT (digs v))) :
    (c < 0 ↔ u < v) ∧ (0 < c ↔ v < u) := by
  subst hc
  rcases Nat.lt_trichotomy (digs u).length (digs v).length with h | h | h
  · have := digs_shorter u v h
    rw [if_pos (by omega)]
    omega
  · obtain ⟨a1, a2, a3, a4⟩ := strip_norm u hu
    obtain ⟨b1, b2, b3, b4⟩ := strip_norm v hv
    rw [if_neg (by omega), if_neg (by omega)]
    have := cmp_val (digs u).length _ _ a1.digs b1.digs (nz_of _ a1.last) (nz_of _ b1.last) a3 (by omega)
    rw [a4, b4, valN_digs] at this
    rw [h, valN_digs] at this
    omega
  · have := digs_shorter v u h
    rw [if_neg (by omega), if_pos (by omega)]
    omega
theorem enc_order (x y : Int) (x0 : -9223372036854775808 ≤ x) (x1 : x ≤ 9223372036854775807) (y0 : -9223372036854775808 ≤ y) (y1 : y ≤ 9223372036854775807) :
    (cmpZ (EncRes x) (EncRes y) < 0 ↔ x < y) ∧ (0 < cmpZ (EncRes x) (EncRes y) ↔ y < x) := by
  have hpw : ∀ v : Int, -9223372036854775808 ≤ v → v ≤ 9223372036854775807 → v ≠ 0 → 0 ≤ powerOf (expo v) ∧ powerOf (expo v) ≤ 62 := fun v a b c => by
    have := expo_rng v a b c
    rw [power_floor]
    omega
  by_cases hx : x = 0
  · subst hx
    by_cases hy : y = 0
    · subst hy; rw [enc_zero]; decide
    · have := hpw y y0 y1 hy
      rw [enc_zero, enc_form y y0 y1 hy]
      unfold formOf
      by_cases hn : y < 0
      · rw [if_pos (by simpa using hn)]
        simp only [cmpZ]
        rw [if_neg (by omega), if_pos (by omega)]
        omega
      · rw [if_neg (by simpa using hn)]
        simp only [cmpZ]
        rw [if_pos (by omega)]
        omega
  · have hxp := hpw x x0 x1 hx
    by_cases hy : y = 0
    · subst hy
      rw [enc_zero, enc_form x x0 x1 hx]
      unfold formOf
      by_cases hn : x < 0
      · rw [if_pos (by simpa using hn)]
        simp only [cmpZ]
        rw [if_pos (by omega)]
        omega
      · rw [if_neg (by simpa using hn)]
        simp only [cmpZ]
        rw [if_neg (by omega), if_pos (by omega)]
        omega
    · have hyp := hpw y y0 y1 hy
      obtain ⟨a1, a2, a3, a4⟩ := strip_norm x.natAbs (by omega)
      obtain ⟨b1, b2, b3, b4⟩ := strip_norm y.natAbs (by omega)
      have hP := pairs10_rng _ (padded_digs a1.digs (expo x))
      have hQ := pairs10_rng _ (padded_digs b1.digs (expo y))
      rw [enc_form x x0 x1 hx, enc_form y y0 y1 hy]
      by_cases nx : x < 0 <;> by_cases ny : y < 0
      · rw [show decide (x < 0) = true from by simpa using nx, show decide (y < 0) = true from by simpa using ny, form_neg _ _ _ _ hP hQ, cmp_formsI _ _ b1 a1 b2 a2]
        have := size_order y.natAbs x.natAbs (by omega) (by omega) _ rfl
        unfold expo
        omega
      · rw [show decide (x < 0) = true from by simpa using nx, show decide (y < 0) = false from by simpa using ny]
        simp only [formOf, if_true, Bool.false_eq_true, if_false, cmpZ]
        rw [if_pos (by omega)]
        omega
      · rw [show decide (x < 0) = false from by simpa using nx, show decide (y < 0) = true from by simpa using ny]
        simp only [formOf, if_true, Bool.false_eq_true, if_false, cmpZ]
        rw [if_neg (by omega), if_pos (by omega)]
        omega
      · rw [show decide (x < 0) = false from by simpa using nx, show decide (y < 0) = false from by simpa using ny, form_pos, cmp_formsI _ _ a1 b1 a2 b2]
        have := size_order x.natAbs y.natAbs (by omega) (by omega) _ rfl
        unfold expo
        omega
theorem awakeC : ZC.laws_numberAwake.f 60 = some true := by decide +kernel
theorem awakeC_k (k : Nat) (h : 60 ≤ k) : ZC.laws_numberAwake.f k = some true := by
  obtain ⟨d, rfl⟩ : ∃ d, k = 60 + d := ⟨k - 60, by omega⟩
  induction d with
  | zero => exact awakeC
  | succ d ih => exact ZC.laws_numberAwake.mono (60 + d) true (ih (by omega))
theorem cloneC (l : List Int) (h : l.length ≤ 2000) : bytes_Clone.f l = some l := by unfold bytes_Clone.f; rw [if_pos (by omega)]
theorem comparedC (l m : List Int) (hl : l.length ≤ 2000) (hm : m.length ≤ 2000) (bl : Byt l) (bm : Byt m) : ZC.impl_Compared.f l m = some (cmpZ l m) := by
  unfold ZC.impl_Compared.f ZC.converters_CompareBytes.f converters_compareBytes.f
  rw [cloneC l hl, cloneC m hm]
  simp only [Option.bind_some]
  rw [if_pos ⟨hl, hm⟩, if_pos ⟨bl, bm⟩, cmpI_cmpZ]
  rfl
theorem FnNumberCompared (l : List Int) (hm : l.length ≤ maxLen) (hy : l.length * 1 ≤ 140737488351232) (hw : ∀ x ∈ l, (Lit.int .u8 x).wf = true) (m : List Int) (hm' : m.length ≤ maxLen) (hy' : m.length * 1 ≤ 140737488351232) (hw' : ∀ x ∈ m, (Lit.int .u8 x).wf = true) (a2 : Int) (w2 : (Lit.int .i64 a2).wf = true) (a3 : Int) (w3 : (Lit.int .i64 a3).wf = true) :
    ∃ k, ZC.laws_FnNumberCompared.f k l m a2 a3 = some true := by
  have bl := byt_of hw
  have bm := byt_of hw'
  have h2 : -9223372036854775808 ≤ a2 ∧ a2 ≤ 9223372036854775807 := rng w2
  have h3 : -9223372036854775808 ≤ a3 ∧ a3 ≤ 9223372036854775807 := rng w3
  refine ⟨100, ?_⟩
  have hA := fun k h => awakeC_k k h
  unfold ZC.laws_FnNumberCompared.f
  by_cases c1 : (l.length : Int) > 2147483647
  · rw [if_pos c1]; simp only [ZC.laws_FnNumberCompared.j0, if_true]
  · rw [if_neg c1]
    simp only [ZC.laws_FnNumberCompared.j0]
    by_cases c2 : (m.length : Int) > 2147483647
    · rw [if_pos (by simpa using c2)]
    · rw [if_neg (by simpa using c2)]
      by_cases c3 : (l.length : Int) > 2000
      · rw [if_pos c3]
        simp only [ZC.laws_FnNumberCompared.j1, if_true]
        rw [hA _ (by omega)]
        rfl
      · rw [if_neg c3]
        simp only [ZC.laws_FnNumberCompared.j1]
        by_cases c4 : (m.length : Int) > 2000
        · rw [if_pos (by simpa using c4), hA _ (by omega)]
          rfl
        · rw [if_neg (by simpa using c4), cloneC l (by omega), cloneC m (by omega)]
          simp only [Option.bind_some]
          have hc : bytes_Compare.f l m = some (cmpZ l m) := by unfold bytes_Compare.f; rw [compare_cmpZ l m bl bm]
          rw [comparedC l m (by omega) (by omega) bl bm, hc]
          simp only [Option.bind_some, bne_self_eq_false, Bool.false_eq_true, if_false, ZC.laws_FnNumberCompared.j2]
          have hN : ∀ v : Int, -9223372036854775808 ≤ v ∧ v ≤ 9223372036854775807 → ZC.impl_NumberOfInt64.f v = some (EncRes v) := fun v h => by
            unfold ZC.impl_NumberOfInt64.f converters_EncodeInt64.f
            rw [if_pos h]
            rfl
          obtain ⟨e1, e2⟩ := enc_byt a2 h2.1 h2.2
          obtain ⟨f1, f2⟩ := enc_byt a3 h3.1 h3.2
          obtain ⟨o1, o2⟩ := enc_order a2 a3 h2.1 h2.2 h3.1 h3.2
          rw [hN a2 h2, hN a3 h3]
          simp only [Option.bind_some]
          rw [comparedC _ _ (by omega) (by omega) e1 f1]
          simp only [Option.bind_some]
          have g1 : (decide (cmpZ (EncRes a2) (EncRes a3) < 0) == decide (a2 < a3)) = true := by rw [beq_iff_eq, decide_eq_decide]; exact o1
          have g2 : (decide (cmpZ (EncRes a2) (EncRes a3) > 0) == decide (a2 > a3)) = true := by rw [beq_iff_eq, decide_eq_decide]; exact o2
          rw [if_pos g1, if_pos g2, comparedC [1] [2] (by decide) (by decide) (by decide) (by decide)]
          simp only [Option.bind_some]
          rw [if_pos (by decide), hA _ (by omega)]
          rfl
end Go.Proofs.YtepooaejlofkkaaDoor.Pure
