/- The pure law of FnNumberDecimals: the order of the forms is the order of the numbers. -/
import Derived.Test.YtepooaejlofkkaaDoorPureFnNumberMade
namespace Go.Proofs.YtepooaejlofkkaaDoor.Pure
open Go Go.RowKit Go.Proofs.YtepooaejlofkkaaDoor Go.Proofs.YtepooaejlofkkaaDoor.X Go.Proofs.YtepooaejlofkkaaDoor.ZN Go.Proofs.YtepooaejlofkkaaDoorW.PrintWords Go.Proofs.YtepooaejlofkkaaDoorW.PrintLast Go.Proofs.YtepooaejlofkkaaDoorW.PrintMore
set_option linter.unusedVariables false
set_option linter.unusedSimpArgs false

/-- The order of lists: by the first element that differs, else the shorter one is less. -/
def cmpZ : List Int → List Int → Int
  | [], [] => 0
  | [], _ :: _ => -1
  | _ :: _, [] => 1
  | a :: xs, b :: ys => if a < b then -1 else if b < a then 1 else cmpZ xs ys
theorem cmpZ_neg : ∀ l m : List Int, cmpZ m l = -cmpZ l m
  | [], [] => rfl
  | [], _ :: _ => rfl
  | _ :: _, [] => rfl
  | a :: xs, b :: ys => by
    simp only [cmpZ]
    have := cmpZ_neg xs ys
    by_cases h1 : b < a
    · rw [if_pos h1, if_neg (by omega), if_pos h1]
    · rw [if_neg h1]
      by_cases h2 : a < b
      · rw [if_pos h2, if_pos h2]; rfl
      · rw [if_neg h2, if_neg h2, if_neg h1]; exact this
theorem byt_cons {a : Int} {l : List Int} (h : Byt (a :: l)) : (0 ≤ a ∧ a ≤ 255) ∧ Byt l := ⟨h a (by simp), fun x hx => h x (by simp [hx])⟩
theorem u8_lt (a b : Int) (ha : 0 ≤ a ∧ a ≤ 255) (hb : 0 ≤ b ∧ b ≤ 255) : (UInt8.ofNat a.toNat < UInt8.ofNat b.toNat) ↔ a < b := by
  rw [UInt8.lt_iff_toNat_lt, UInt8.toNat_ofNat', UInt8.toNat_ofNat']
  omega
theorem compare_cmpZ : ∀ l m : List Int, Byt l → Byt m → Lib.compareBytes (Lib.bytesOf l) (Lib.bytesOf m) = cmpZ l m
  | [], [], _, _ => rfl
  | [], _ :: _, _, _ => rfl
  | _ :: _, [], _, _ => rfl
  | a :: xs, b :: ys, h, k => by
    obtain ⟨ha, h'⟩ := byt_cons h
    obtain ⟨hb, k'⟩ := byt_cons k
    show (if UInt8.ofNat a.toNat < UInt8.ofNat b.toNat then (-1 : Int) else if UInt8.ofNat b.toNat < UInt8.ofNat a.toNat then 1 else Lib.compareBytes (Lib.bytesOf xs) (Lib.bytesOf ys)) = _
    simp only [u8_lt a b ha hb, u8_lt b a hb ha, compare_cmpZ xs ys h' k', cmpZ]

theorem cmpZ_pos : ∀ P Q : List Int, cmpZ (P.map fun p => p + 1) (Q.map fun p => p + 1) = cmpZ P Q
  | [], [] => rfl
  | [], _ :: _ => rfl
  | _ :: _, [] => rfl
  | a :: xs, b :: ys => by
    simp only [List.map_cons, cmpZ, cmpZ_pos xs ys]
    by_cases h1 : a < b
    · rw [if_pos (by omega), if_pos h1]
    · rw [if_neg (by omega), if_neg h1]
      by_cases h2 : b < a
      · rw [if_pos (by omega), if_pos h2]
      · rw [if_neg (by omega), if_neg h2]
theorem cmpZ_turn : ∀ P Q : List Int, (∀ p ∈ P, 0 ≤ p ∧ p ≤ 99) → (∀ p ∈ Q, 0 ≤ p ∧ p ≤ 99) → cmpZ ((P.map fun p => 101 - p) ++ [102]) ((Q.map fun p => 101 - p) ++ [102]) = cmpZ Q P
  | [], [], _, _ => by simp [cmpZ]
  | [], b :: ys, _, k => by
    have := k b (by simp)
    simp only [List.map_nil, List.nil_append, List.map_cons, List.cons_append, cmpZ]
    rw [if_neg (by omega), if_pos (by omega)]
  | a :: xs, [], h, _ => by
    have := h a (by simp)
    simp only [List.map_nil, List.nil_append, List.map_cons, List.cons_append, cmpZ]
    rw [if_pos (by omega)]
  | a :: xs, b :: ys, h, k => by
    simp only [List.map_cons, List.cons_append, cmpZ, cmpZ_turn xs ys (fun p hp => h p (by simp [hp])) (fun p hp => k p (by simp [hp]))]
    by_cases h1 : b < a
    · rw [if_pos (by omega), if_pos h1]
    · rw [if_neg (by omega), if_neg h1]
      by_cases h2 : a < b
      · rw [if_pos (by omega), if_pos h2]
      · rw [if_neg (by omega), if_neg h2]
theorem form_pos (P Q : List Int) (a b : Int) : cmpZ (formOf false P a) (formOf false Q b) = cmpZ (a :: P) (b :: Q) := by
  simp only [formOf, Bool.false_eq_true, if_false, cmpZ, cmpZ_pos]
  by_cases h1 : a < b
  · rw [if_pos (by omega), if_pos h1]
  · rw [if_neg (by omega), if_neg h1]
    by_cases h2 : b < a
    · rw [if_pos (by omega), if_pos h2]
    · rw [if_neg (by omega), if_neg h2]
theorem form_neg (P Q : List Int) (a b : Int) (hP : ∀ p ∈ P, 0 ≤ p ∧ p ≤ 99) (hQ : ∀ p ∈ Q, 0 ≤ p ∧ p ≤ 99) : cmpZ (formOf true P a) (formOf true Q b) = cmpZ (b :: Q) (a :: P) := by
  simp only [formOf, if_true, cmpZ, cmpZ_turn P Q hP hQ]
  by_cases h1 : b < a
  · rw [if_pos (by omega), if_pos h1]
  · rw [if_neg (by omega), if_neg h1]
    by_cases h2 : a < b
    · rw [if_pos (by omega), if_pos h2]
    · rw [if_neg (by omega), if_neg h2]

/-- The last one is not 0. -/
def NZ : List Int → Prop
  | [] => True
  | [a] => a ≠ 0
  | _ :: b :: t => NZ (b :: t)
theorem NZ.tail {a : Int} {t : List Int} (h : NZ (a :: t)) : NZ t := by
  cases t with
  | nil => trivial
  | cons b t => exact h
theorem nz_of : ∀ l : List Int, (0 < l.length → l.getD (l.length - 1) 0 ≠ 0) → NZ l
  | [], _ => trivial
  | [a], h => h (by simp)
  | a :: b :: t, h => nz_of (b :: t) (fun _ => by
    have := h (by simp)
    simpa using this)
theorem NZ.cons {a : Int} {t : List Int} (h : NZ t) (ht : 0 < t.length) : NZ (a :: t) := by
  cases t with
  | nil => simp at ht
  | cons b t => exact h
def pad (d : List Int) : List Int := if d.length % 2 = 1 then d ++ [0] else d
theorem pad_two (a b : Int) (t : List Int) : pad (a :: b :: t) = a :: b :: pad t := by
  unfold pad
  by_cases ht : t.length % 2 = 1
  · rw [if_pos (by simp only [List.length_cons]; omega), if_pos ht]; rfl
  · rw [if_neg (by simp only [List.length_cons]; omega), if_neg ht]
theorem pairs_pad_two (a b : Int) (t : List Int) : pairs10 (pad (a :: b :: t)) = (10 * a + b) :: pairs10 (pad t) := by rw [pad_two, pairs10]
theorem pairs_pad_one (a : Int) : pairs10 (pad [a]) = [10 * a + 0] := rfl
theorem pairs_pad_ne (t : List Int) (h : 0 < t.length) : ∃ p r, pairs10 (pad t) = p :: r := by
  match t, h with
  | [a], _ => exact ⟨_, _, rfl⟩
  | a :: b :: t, _ => exact ⟨_, _, pairs_pad_two a b t⟩
theorem nz_two {a b : Int} {t : List Int} (h : NZ (a :: b :: t)) (hb : b = 0) : 0 < t.length := by
  cases t with
  | nil => exact absurd hb h
  | cons c t => simp
theorem cmp_pairs : ∀ x y : List Int, Digs x → Digs y → NZ x → NZ y → cmpZ (pairs10 (pad x)) (pairs10 (pad y)) = cmpZ x y
  | [], [], _, _, _, _ => rfl
  | [], [b], _, _, _, _ => rfl
  | [], b :: c :: t, _, _, _, _ => by rw [pairs_pad_two]; rfl
  | [a], [], _, _, _, _ => rfl
  | a :: b :: t, [], _, _, _, _ => by rw [pairs_pad_two]; rfl
  | [a], [b], _, _, _, _ => by
    rw [pairs_pad_one, pairs_pad_one]
    simp only [cmpZ]
    by_cases h1 : a < b
    · rw [if_pos (by omega), if_pos h1]
    · rw [if_neg (by omega), if_neg h1]
      by_cases h2 : b < a
      · rw [if_pos (by omega), if_pos h2]
      · rw [if_neg (by omega), if_neg h2]
  | [a], b :: c :: t, _, hy, _, ny => by
    have hc := hy c (by simp)
    rw [pairs_pad_one, pairs_pad_two]
    simp only [cmpZ]
    by_cases h1 : a < b
    · rw [if_pos (by omega), if_pos h1]
    · rw [if_neg h1]
      by_cases h2 : b < a
      · rw [if_neg (by omega), if_pos (by omega), if_pos h2]
      · rw [if_neg h2]
        by_cases hc0 : c = 0
        · rw [if_neg (by omega), if_neg (by omega)]
          obtain ⟨p, r, e⟩ := pairs_pad_ne t (nz_two ny hc0)
          rw [e]; rfl
        · rw [if_pos (by omega)]
  | b :: c :: t, [a], hy, _, ny, _ => by
    have hc := hy c (by simp)
    rw [pairs_pad_one, pairs_pad_two]
    simp only [cmpZ]
    by_cases h1 : b < a
    · rw [if_pos (by omega), if_pos h1]
    · rw [if_neg h1]
      by_cases h2 : a < b
      · rw [if_neg (by omega), if_pos (by omega), if_pos h2]
      · rw [if_neg h2]
        by_cases hc0 : c = 0
        · rw [if_neg (by omega), if_neg (by omega)]
          obtain ⟨p, r, e⟩ := pairs_pad_ne t (nz_two ny hc0)
          rw [e]; rfl
        · rw [if_neg (by omega), if_pos (by omega)]
  | a :: b :: s, c :: d :: t, hx, hy, nx, ny => by
    have hb := hx b (by simp)
    have hd := hy d (by simp)
    have ih := cmp_pairs s t (fun z hz => hx z (by simp [hz])) (fun z hz => hy z (by simp [hz])) nx.tail.tail ny.tail.tail
    rw [pairs_pad_two, pairs_pad_two]
    simp only [cmpZ, ih]
    by_cases h1 : a < c
    · rw [if_pos (by omega), if_pos h1]
    · rw [if_neg h1]
      by_cases h2 : c < a
      · rw [if_neg (by omega), if_pos (by omega), if_pos h2]
      · rw [if_neg h2]
        by_cases h3 : b < d
        · rw [if_pos (by omega), if_pos h3]
        · rw [if_neg (by omega), if_neg h3]
          by_cases h4 : d < b
          · rw [if_pos (by omega), if_pos h4]
          · rw [if_neg (by omega), if_neg h4]

theorem tmod_two (e : Int) : Int.tmod e 2 = 0 ↔ e % 2 = 0 := by
  by_cases h0 : 0 ≤ e
  · rw [Int.tmod_eq_emod_of_nonneg h0]
  · have e' : e = -(-e) := by omega
    have : Int.tmod e 2 = -((-e) % 2) := by
      conv => lhs; rw [e']
      rw [Int.neg_tmod, Int.tmod_eq_emod_of_nonneg (by omega)]
    rw [this]; omega
theorem power_floor (e : Int) : powerOf e = e / 2 := by
  unfold powerOf
  have hdiv : ∀ x : Int, x % 2 = 0 → Int.tdiv x 2 = x / 2 := by
    intro x hx
    by_cases h0 : 0 ≤ x
    · rw [Int.tdiv_eq_ediv_of_nonneg h0]
    · have e' : x = -(-x) := by omega
      have : Int.tdiv x 2 = -((-x) / 2) := by
        conv => lhs; rw [e']
        rw [Int.neg_tdiv, Int.tdiv_eq_ediv_of_nonneg (by omega)]
      rw [this]; omega
  by_cases h : e % 2 = 0
  · rw [if_pos ((tmod_two e).2 h), hdiv e h]
  · rw [if_neg (fun h' => h ((tmod_two e).1 h')), hdiv (e - 1) (by omega)]; omega
theorem padded_pad (D : List Int) (e : Int) : padded D e = pad (if e % 2 = 0 then 0 :: D else D) := by
  unfold padded pad
  by_cases h : e % 2 = 0
  · rw [if_pos ((tmod_two e).2 h), if_pos h]
  · rw [if_neg (fun h' => h ((tmod_two e).1 h')), if_neg h]

theorem first_small (D : List Int) (h : Norm D) (h0 : 0 < D.length) : ∃ p r, pairs10 (pad (0 :: D)) = p :: r ∧ p ≤ 9 := by
  match D, h0, h with
  | a :: t, _, h =>
    have := h.digs a (by simp)
    exact ⟨_, _, pairs_pad_two 0 a t, by omega⟩
theorem first_great (D : List Int) (h : Norm D) (h0 : 0 < D.length) : ∃ p r, pairs10 (pad D) = p :: r ∧ 10 ≤ p := by
  have hf := h.first h0
  match D, h0, h, hf with
  | [a], _, h, hf =>
    have := h.digs a (by simp)
    have hf' : a ≠ 0 := hf
    exact ⟨_, _, pairs_pad_one a, by omega⟩
  | a :: b :: t, _, h, hf =>
    have := h.digs a (by simp)
    have := h.digs b (by simp)
    have hf' : a ≠ 0 := hf
    exact ⟨_, _, pairs_pad_two a b t, by omega⟩

/-- The order of two forms from 0 on. -/
theorem cmp_forms (D E : List Int) (hD : Norm D) (hE : Norm E) (d0 : 0 < D.length) (e0 : 0 < E.length) (p q : Int) :
    cmpZ (powerOf p :: pairs10 (padded D p)) (powerOf q :: pairs10 (padded E q)) = if p < q then -1 else if q < p then 1 else cmpZ D E := by
  have nD := nz_of D hD.last
  have nE := nz_of E hE.last
  rw [power_floor, power_floor, padded_pad, padded_pad]
  simp only [cmpZ]
  by_cases h1 : p < q
  · rw [if_pos h1]
    by_cases h2 : p / 2 < q / 2
    · rw [if_pos h2]
    · rw [if_neg h2, if_neg (by omega), if_pos (show p % 2 = 0 by omega), if_neg (show ¬ q % 2 = 0 by omega)]
      obtain ⟨a, r, e1, ha⟩ := first_small D hD d0
      obtain ⟨b, s, e2, hb⟩ := first_great E hE e0
      rw [e1, e2]
      simp only [cmpZ]
      rw [if_pos (by omega)]
  · rw [if_neg h1]
    by_cases h3 : q < p
    · rw [if_pos h3, if_neg (by omega)]
      by_cases h2 : q / 2 < p / 2
      · rw [if_pos h2]
      · rw [if_neg h2, if_neg (show ¬ p % 2 = 0 by omega), if_pos (show q % 2 = 0 by omega)]
        obtain ⟨a, r, e1, ha⟩ := first_great D hD d0
        obtain ⟨b, s, e2, hb⟩ := first_small E hE e0
        rw [e1, e2]
        simp only [cmpZ]
        rw [if_neg (by omega), if_pos (by omega)]
    · obtain rfl : p = q := by omega
      rw [if_neg h3, if_neg (by omega), if_neg (by omega)]
      by_cases h4 : p % 2 = 0
      · rw [if_pos h4, if_pos h4, cmp_pairs _ _ (digs_cons hD.digs) (digs_cons hE.digs) (nD.cons d0) (nE.cons e0)]
        simp only [cmpZ]
        rw [if_neg (by omega), if_neg (by omega)]
      · rw [if_neg h4, if_neg h4, cmp_pairs _ _ hD.digs hE.digs nD nE]

theorem digs_byt {D : List Int} (h : Digs D) : Byt D := fun x hx => by have := h x hx; omega
theorem form_byt (neg : Bool) (P : List Int) (a : Int) (hP : ∀ p ∈ P, 0 ≤ p ∧ p ≤ 99) (ha : -62 ≤ a ∧ a ≤ 62) : Byt (formOf neg P a) := by
  intro x hx
  cases neg with
  | false =>
    simp only [formOf, Bool.false_eq_true, if_false, List.mem_cons, List.mem_map] at hx
    rcases hx with rfl | ⟨p, hp, rfl⟩
    · omega
    · have := hP p hp; omega
  | true =>
    simp only [formOf, if_true, List.mem_cons, List.mem_append, List.mem_map, List.not_mem_nil, or_false] at hx
    rcases hx with rfl | ⟨p, hp, rfl⟩ | rfl
    · omega
    · have := hP p hp; omega
    · omega
theorem padded_digs {D : List Int} (h : Digs D) (e : Int) : Digs (padded D e) := by
  rw [padded_pad]
  unfold pad
  have h' : Digs (if e % 2 = 0 then 0 :: D else D) := by split; exact digs_cons h; exact h
  generalize (if e % 2 = 0 then 0 :: D else D) = d at *
  split
  · exact digs_snoc h'
  · exact h'

/-- Whether a number is below another one. -/
def lessB (D : List Int) (minus : Bool) (p : Int) (E : List Int) (also : Bool) (q : Int) : Bool :=
  if (minus != also) = true then minus else if minus then decide (q < p ∨ (p = q ∧ 0 < cmpZ D E)) else decide (p < q ∨ (p = q ∧ cmpZ D E < 0))
theorem less_f (D E : List Int) (hD : Digs D) (hE : Digs E) (minus also : Bool) (p q : Int) : laws_numberLess.f D minus p E also q = some (lessB D minus p E also q) := by
  have hc : bytes_Compare.f D E = some (cmpZ D E) := by unfold bytes_Compare.f; rw [compare_cmpZ D E (digs_byt hD) (digs_byt hE)]
  unfold laws_numberLess.f lessB
  rw [hc]
  simp only [Option.bind_some]
  by_cases h : (minus != also) = true
  · rw [if_pos h, if_pos h]
  · rw [if_neg h, if_neg h]
    by_cases h1 : p < q
    · rw [if_pos h1, if_neg (show ¬ p > q by omega), if_neg (show ¬ p = q by omega)]
      cases minus
      · simp [h1]
      · simp; omega
    · rw [if_neg h1]
      by_cases h2 : p = q
      · subst h2
        rw [if_pos rfl, if_neg (show ¬ p > p by omega)]
        cases minus
        · simp
        · simp
      · rw [if_neg h2, if_pos (show p > q by omega)]
        cases minus
        · simp; omega
        · have : q < p := by omega
          simp [this]

theorem FnNumberDecimals (l : List Int) (hm : l.length ≤ maxLen) (hy : l.length * 1 ≤ 140737488351232) (hw : ∀ x ∈ l, (Lit.int .u8 x).wf = true)
    (m : List Int) (hm' : m.length ≤ maxLen) (hy' : m.length * 1 ≤ 140737488351232) (hw' : ∀ x ∈ m, (Lit.int .u8 x).wf = true)
    (a2 a3 : Bool) (a4 : Int) (w4 : (Lit.int .i8 a4).wf = true) (a5 : Int) (w5 : (Lit.int .i8 a5).wf = true) :
    ∃ k, laws_FnNumberDecimals.f k l m a2 a3 a4 a5 = some true := by
  have hb := byt_of hw
  have hb' := byt_of hw'
  have h4 : -128 ≤ a4 ∧ a4 ≤ 127 := rng w4
  have h5 : -128 ≤ a5 ∧ a5 ≤ 127 := rng w5
  refine ⟨l.length + m.length + 100 + 1 + 1, ?_⟩
  unfold laws_FnNumberDecimals.f
  by_cases hl : (l.length : Int) > 2147483647
  · rw [if_pos hl]; simp only [laws_FnNumberDecimals.j0, if_true]
  · rw [if_neg hl]
    simp only [laws_FnNumberDecimals.j0]
    by_cases hl' : (m.length : Int) > 2147483647
    · rw [if_pos (by simpa using hl')]
    · rw [if_neg (by simpa using hl')]
      obtain ⟨D, hD, nD⟩ := digits_ex l hb (by omega) (l.length + m.length + 100 + 1) (by omega)
      obtain ⟨E, hE, nE⟩ := digits_ex m hb' (by omega) (l.length + m.length + 100 + 1) (by omega)
      have hA := awake_k (l.length + m.length + 100) (by omega)
      rw [hD]
      simp only [Option.bind_some]
      rw [hE]
      simp only [Option.bind_some, laws_FnNumberDecimals.j1]
      by_cases d0 : (D.length : Int) = 0
      · rw [if_pos d0]; simp only [if_true]; rw [hA]; rfl
      · rw [if_neg d0]
        by_cases e0 : (E.length : Int) = 0
        · rw [if_pos (by simpa using e0), hA]; rfl
        · rw [if_neg (by simpa using e0)]
          have hr4 := tmod_rng a4 20 (by omega) h4 (by omega)
          have hr5 := tmod_rng a5 20 (by omega) h5 (by omega)
          have dl := nD.len
          have el := nE.len
          rw [letters_f D nD.digs (by omega) _ (by omega), letters_f E nE.digs (by omega) _ (by omega)]
          simp only [Option.bind_some]
          rw [wrap_id (Int.tmod a4 20) (by omega), wrap_id (Int.tmod a5 20) (by omega)]
          generalize Int.tmod a4 20 = p at *
          generalize Int.tmod a5 20 = q at *
          rw [made_f D dl a2 p hr4, made_f E el a3 q hr5]
          simp only [Option.bind_some]
          rw [toNum_lets D nD.digs dl (by omega) a2 p hr4, toNum_lets E nE.digs el (by omega) a3 q hr5, less_f D E nD.digs nE.digs, less_f E D nE.digs nD.digs]
          have hP := pairs10_rng _ (padded_digs nD.digs p)
          have hQ := pairs10_rng _ (padded_digs nE.digs q)
          have hp := power_rng p hr4
          have hq := power_rng q hr5
          have hc : bytes_Compare.f (formOf a2 (pairs10 (padded D p)) (powerOf p)) (formOf a3 (pairs10 (padded E q)) (powerOf q)) = some (cmpZ (formOf a2 (pairs10 (padded D p)) (powerOf p)) (formOf a3 (pairs10 (padded E q)) (powerOf q))) := by
            unfold bytes_Compare.f
            rw [compare_cmpZ _ _ (form_byt _ _ _ hP hp) (form_byt _ _ _ hQ hq)]
          rw [hc]
          simp only [Option.bind_some]
          have f1 := cmp_forms D E nD nE (by omega) (by omega) p q
          have f2 := cmp_forms E D nE nD (by omega) (by omega) q p
          have g1 := form_pos (pairs10 (padded D p)) (pairs10 (padded E q)) (powerOf p) (powerOf q)
          have g2 := form_neg (pairs10 (padded D p)) (pairs10 (padded E q)) (powerOf p) (powerOf q) hP hQ
          have hn := cmpZ_neg D E
          have h1 : (decide (cmpZ (formOf a2 (pairs10 (padded D p)) (powerOf p)) (formOf a3 (pairs10 (padded E q)) (powerOf q)) < 0) == lessB D a2 p E a3 q) = true ∧
              (decide (cmpZ (formOf a2 (pairs10 (padded D p)) (powerOf p)) (formOf a3 (pairs10 (padded E q)) (powerOf q)) > 0) == lessB E a3 q D a2 p) = true := by
            cases a2 <;> cases a3
            · rw [g1, f1]
              unfold lessB
              generalize cmpZ D E = c at *
              rw [hn]
              simp only [bne_self_eq_false, Bool.false_eq_true, if_false, beq_iff_eq, decide_eq_decide]
              constructor
              · split
                · omega
                · split <;> omega
              · split
                · omega
                · split <;> omega
            · have : cmpZ (formOf false (pairs10 (padded D p)) (powerOf p)) (formOf true (pairs10 (padded E q)) (powerOf q)) = 1 := by
                simp only [formOf, Bool.false_eq_true, if_false, if_true, cmpZ]
                rw [if_neg (by omega), if_pos (by omega)]
              rw [this]
              exact ⟨rfl, rfl⟩
            · have : cmpZ (formOf true (pairs10 (padded D p)) (powerOf p)) (formOf false (pairs10 (padded E q)) (powerOf q)) = -1 := by
                simp only [formOf, Bool.false_eq_true, if_false, if_true, cmpZ]
                rw [if_pos (by omega)]
              rw [this]
              exact ⟨rfl, rfl⟩
            · rw [g2, f2]
              unfold lessB
              generalize cmpZ D E = c at *
              rw [hn]
              simp only [bne_self_eq_false, Bool.false_eq_true, if_false, if_true, beq_iff_eq, decide_eq_decide]
              constructor
              · split
                · omega
                · split <;> omega
              · split
                · omega
                · split <;> omega
          rw [if_pos h1.1, if_pos h1.2, hA]
          rfl
end Go.Proofs.YtepooaejlofkkaaDoor.Pure
