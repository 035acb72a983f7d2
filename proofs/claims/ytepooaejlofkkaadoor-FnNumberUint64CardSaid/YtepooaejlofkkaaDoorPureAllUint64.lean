/- The pure law of FnNumberUint64, with all that it rests on in one text (a claim holds at most 60 files): the pure laws of Length, Made, Decimals, Money and the order of integers' forms. -/
import Derived.Test.YtepooaejlofkkaaDoorZN
import Derived.Test.YtepooaejlofkkaaDoorZX
import Derived.Test.YtepooaejlofkkaaDoorCb
namespace Go.Proofs.YtepooaejlofkkaaDoor.Pure
open Go Go.RowKit Go.Proofs.YtepooaejlofkkaaDoor Go.Proofs.YtepooaejlofkkaaDoor.X Go.Proofs.YtepooaejlofkkaaDoor.ZN Go.Proofs.YtepooaejlofkkaaDoorW.PrintWords Go.Proofs.YtepooaejlofkkaaDoorW.PrintLast Go.Proofs.YtepooaejlofkkaaDoorW.PrintMore
set_option linter.unusedVariables false
set_option linter.unusedSimpArgs false
theorem rng {k : IntKind} {n : Int} (h : (Lit.int k n).wf = true) : k.min ≤ n ∧ n ≤ k.max := by
  simp only [Lit.wf, Bool.and_eq_true, decide_eq_true_eq] at h
  exact h
theorem wrap_id (n : Int) (h : -9223372036854775808 ≤ n ∧ n ≤ 9223372036854775807) : wrap64 n = n := IntWalk.wrap64_in n h
theorem u64_id (n : Int) (h : 0 ≤ n ∧ n ≤ 18446744073709551615) : IntKind.u64.wrap n = n := by rw [IntKind.wrap_u64]; omega
theorem wrap32_id (n : Int) (h : -2147483648 ≤ n ∧ n ≤ 2147483647) : wrap32 n = n := by unfold wrap32; omega

theorem awake : ZN.laws_numberAwake.f 60 = some true := by decide +kernel

theorem enc_digit (c : Int) (h0 : 48 ≤ c) (h1 : c ≤ 57) : (Utf8.encode c).size = 1 := by
  have : c = 48 ∨ c = 49 ∨ c = 50 ∨ c = 51 ∨ c = 52 ∨ c = 53 ∨ c = 54 ∨ c = 55 ∨ c = 56 ∨ c = 57 := by omega
  rcases this with rfl | rfl | rfl | rfl | rfl | rfl | rfl | rfl | rfl | rfl <;> rfl

theorem decimal_size (u : Nat) : ∀ (k : Nat) (x : ByteArray), u ≤ 18446744073709551615 → (Lib.decDigits u).length < k → x.size + (Lib.decDigits u).length ≤ 1000 →
    ∃ s, spec_NumberDecimal.l0 k u false x = some s ∧ s.size = x.size + (Lib.decDigits u).length := by
  induction u using Nat.strongRecOn with
  | _ u ih =>
    intro k x hu hk hx
    obtain ⟨k, rfl⟩ : ∃ m, k = m + 1 := ⟨k - 1, by omega⟩
    simp only [spec_NumberDecimal.l0]
    by_cases h : u < 10
    · have hl : (Lib.decDigits u).length = 1 := by rw [Lib.decDigits, dif_pos h]; rfl
      rw [if_neg (by omega), u64_id (48 + (u : Int)) (by omega), wrap32_id _ (by omega)]
      have he := enc_digit (48 + (u : Int)) (by omega) (by omega)
      rw [if_pos (by omega), if_neg (by simp)]
      exact ⟨_, rfl, by rw [ByteArray.size_append]; omega⟩
    · have hl : (Lib.decDigits u).length = (Lib.decDigits (u / 10)).length + 1 := by rw [Lib.decDigits, dif_neg h, List.length_append]; rfl
      have e1 : Int.tmod (u : Int) 10 = ((u % 10 : Nat) : Int) := by rw [Int.tmod_eq_emod_of_nonneg (by omega)]; omega
      have e2 : Int.tdiv (u : Int) 10 = ((u / 10 : Nat) : Int) := by rw [Int.tdiv_eq_ediv_of_nonneg (by omega)]; omega
      rw [if_pos (by omega), e1, e2, u64_id (48 + ((u % 10 : Nat) : Int)) (by omega), wrap32_id _ (by omega), u64_id ((u / 10 : Nat) : Int) (by omega)]
      have he := enc_digit (48 + ((u % 10 : Nat) : Int)) (by omega) (by omega)
      rw [if_pos (by omega)]
      obtain ⟨s, hs, hz⟩ := ih (u / 10) (by omega) k (Utf8.encode (48 + ((u % 10 : Nat) : Int)) ++ x) (by omega) (by omega) (by rw [ByteArray.size_append]; omega)
      exact ⟨s, hs, by rw [hz, ByteArray.size_append]; omega⟩

theorem toNum_length (l : List Int) (neg : Bool) (e : Int) : 1 ≤ (toNum l neg e).length ∧ (toNum l neg e).length ≤ l.length / 2 + 3 := by
  unfold toNum
  split
  · simp
  · have he : (evened l e).length ≤ l.length + 1 := by unfold evened; split <;> simp
    have hp := pairs_length neg (evened l e)
    simp only [List.length_cons, List.length_append]
    split <;> simp only [List.length_cons, List.length_nil] <;> omega

theorem FnNumberLength (a0 : Int) (w0 : (Lit.int .i64 a0).wf = true) : ∃ k, laws_FnNumberLength.f k a0 = some true := by
  have hr : -9223372036854775808 ≤ a0 ∧ a0 ≤ 9223372036854775807 := rng w0
  refine ⟨60, ?_⟩
  have hd := dg_le a0 hr.1 hr.2
  have hdl : (dg a0).length = (Lib.decDigits a0.natAbs).length := by unfold dg; rw [List.length_map]
  have ht : (trimZ (dg a0)).length ≤ (dg a0).length := by unfold trimZ; rw [List.length_take]; omega
  have hL := toNum_length (trimZ (dg a0)) (decide (a0 < 0)) ((dg a0).length - 1)
  have hN : impl_NumberOfInt64.f a0 = some (toNum (trimZ (dg a0)) (decide (a0 < 0)) ((dg a0).length - 1)) := by
    unfold impl_NumberOfInt64.f converters_EncodeInt64.f
    rw [if_pos hr]
    rfl
  unfold laws_FnNumberLength.f
  rw [hN]
  simp only [Option.bind_some]
  generalize toNum (trimZ (dg a0)) (decide (a0 < 0)) ((dg a0).length - 1) = b at *
  have hdec : ∀ z : Int, z = (a0.natAbs : Int) → ∃ s, spec_NumberDecimal.f 60 z false = some s ∧ s.size = (dg a0).length := by
    intro z hz
    obtain ⟨s, hs, hsz⟩ := decimal_size a0.natAbs 60 ⟨#[]⟩ (by omega) (by omega) (by rw [ba_size_mk]; simp; omega)
    refine ⟨s, ?_, ?_⟩
    · unfold spec_NumberDecimal.f; rw [hz]; exact hs
    · rw [hsz, ba_size_mk]; simp [hdl]
  by_cases hn : a0 < 0
  · rw [if_pos hn]
    obtain ⟨s, hs, hsz⟩ := hdec (IntKind.u64.wrap (-(IntKind.u64.wrap a0))) (by rw [IntKind.wrap_u64, IntKind.wrap_u64]; omega)
    rw [hs]
    simp only [Option.bind_some]
    rw [wrap_id ((s.size : Int) / 2) (by omega), wrap_id ((s.size : Int) / 2 + 1) (by omega), wrap_id _ (by omega), if_pos (by omega), if_pos (by omega), awake]
    rfl
  · rw [if_neg hn]
    obtain ⟨s, hs, hsz⟩ := hdec (IntKind.u64.wrap a0) (by rw [IntKind.wrap_u64]; omega)
    rw [hs]
    simp only [Option.bind_some]
    rw [wrap_id ((s.size : Int) / 2) (by omega), wrap_id ((s.size : Int) / 2 + 1) (by omega), wrap_id _ (by omega), if_pos (by omega), if_pos (by omega), awake]
    rfl
end Go.Proofs.YtepooaejlofkkaaDoor.Pure

/- What is made of digits, a sign and an exponent: the package's form and the reference's are one. -/
namespace Go.Proofs.YtepooaejlofkkaaDoor.Pure
open Go Go.RowKit Go.Proofs.YtepooaejlofkkaaDoor Go.Proofs.YtepooaejlofkkaaDoor.X Go.Proofs.YtepooaejlofkkaaDoor.ZN Go.Proofs.YtepooaejlofkkaaDoorW.PrintWords Go.Proofs.YtepooaejlofkkaaDoorW.PrintLast Go.Proofs.YtepooaejlofkkaaDoorW.PrintMore
set_option linter.unusedVariables false
set_option linter.unusedSimpArgs false

def Digs (l : List Int) : Prop := ∀ x ∈ l, 0 ≤ x ∧ x ≤ 9
theorem Digs.get {l : List Int} (h : Digs l) (i : Nat) : 0 ≤ l.getD i 0 ∧ l.getD i 0 ≤ 9 := by
  rw [List.getD_eq_getElem?_getD]
  by_cases hi : i < l.length
  · rw [List.getElem?_eq_getElem hi]; exact h _ (List.getElem_mem hi)
  · rw [List.getElem?_eq_none (by omega)]; exact ⟨by simp, by simp⟩
theorem Digs.take {l : List Int} (h : Digs l) (m : Nat) : Digs (l.take m) := fun x hx => h x (List.mem_of_mem_take hx)
theorem Digs.drop {l : List Int} (h : Digs l) (m : Nat) : Digs (l.drop m) := fun x hx => h x (List.mem_of_mem_drop hx)

/-- Digits without noughts at both ends. -/
structure Norm (D : List Int) : Prop where
  len : D.length ≤ 18
  digs : Digs D
  first : 0 < D.length → D.getD 0 0 ≠ 0
  last : 0 < D.length → D.getD (D.length - 1) 0 ≠ 0

theorem rd_nat (l : List Int) (i : Nat) : rd l (i : Int) = l.getD i 0 := by unfold rd; rw [Int.toNat_natCast]

theorem l2_ex (n : Nat) : ∀ (k : Nat) (x : List Int), x.length = n → n < k → n ≤ 18 → Digs x → (0 < x.length → x.getD 0 0 ≠ 0) → ∃ D, laws_numberDigits.l2 k x = some D ∧ Norm D := by
  induction n with
  | zero =>
    intro k x hx hk hn hd hf
    obtain ⟨k, rfl⟩ : ∃ m, k = m + 1 := ⟨k - 1, by omega⟩
    simp only [laws_numberDigits.l2]
    rw [if_neg (by omega)]
    exact ⟨x, rfl, by omega, hd, hf, fun h => by omega⟩
  | succ n ih =>
    intro k x hx hk hn hd hf
    obtain ⟨k, rfl⟩ : ∃ m, k = m + 1 := ⟨k - 1, by omega⟩
    simp only [laws_numberDigits.l2]
    have e : wrap64 ((x.length : Int) - 1) = (n : Int) := by rw [wrap_id _ (by omega)]; omega
    rw [e, if_pos (by omega), if_pos (by omega), if_pos (by omega), rd_nat]
    by_cases h0 : x.getD n 0 = 0
    · rw [if_pos h0, if_pos (by omega), Int.toNat_natCast]
      have hl : (x.take n).length = n := by rw [List.length_take]; omega
      refine ih k (x.take n) hl (by omega) (by omega) (hd.take n) (fun h => ?_)
      have := hf (by omega)
      rw [hl] at h
      simp only [List.getD_eq_getElem?_getD] at this ⊢
      rwa [List.getElem?_take, if_pos h]
    · rw [if_neg h0]
      exact ⟨x, rfl, by omega, hd, hf, fun _ => by rw [hx]; exact h0⟩

theorem l1_ex (n : Nat) : ∀ (k : Nat) (x : List Int), x.length = n → 2 * n + 3 < k → n ≤ 18 → Digs x → ∃ D, laws_numberDigits.l1 k x = some D ∧ Norm D := by
  induction n with
  | zero =>
    intro k x hx hk hn hd
    obtain ⟨k, rfl⟩ : ∃ m, k = m + 2 := ⟨k - 2, by omega⟩
    simp only [laws_numberDigits.l1, laws_numberDigits.j2]
    rw [if_neg (by omega)]
    exact l2_ex 0 k x hx (by omega) (by omega) hd (fun h => by omega)
  | succ n ih =>
    intro k x hx hk hn hd
    obtain ⟨k, rfl⟩ : ∃ m, k = m + 2 := ⟨k - 2, by omega⟩
    rw [laws_numberDigits.l1]
    rw [if_pos (by omega), if_pos (by omega)]
    have e0 : rd x 0 = x.getD 0 0 := rd_nat x 0
    rw [e0]
    by_cases h0 : x.getD 0 0 = 0
    · rw [if_pos h0, if_pos (by omega)]
      exact ih (k + 1) (x.drop 1) (by rw [List.length_drop]; omega) (by omega) (by omega) (hd.drop 1)
    · rw [if_neg h0]
      simp only [laws_numberDigits.j2]
      exact l2_ex (n + 1) k x hx (by omega) (by omega) hd (fun _ => h0)

theorem l0_ex (l : List Int) (hb : Byt l) (hl : l.length ≤ 2147483647) (d : Nat) : ∀ (k : Nat) (x : List Int) (i : Nat), l.length - i = d → i ≤ l.length → d + 45 < k → x.length ≤ 18 → Digs x →
    ∃ D, laws_numberDigits.l0 k 18 x l (l.length : Int) (i : Int) = some D ∧ Norm D := by
  induction d with
  | zero =>
    intro k x i hd hi hk hx hg
    obtain ⟨k, rfl⟩ : ∃ m, k = m + 1 := ⟨k - 1, by omega⟩
    rw [laws_numberDigits.l0]
    rw [if_neg (by omega)]
    exact l1_ex x.length k x rfl (by omega) hx hg
  | succ d ih =>
    intro k x i hd hi hk hx hg
    obtain ⟨k, rfl⟩ : ∃ m, k = m + 1 := ⟨k - 1, by omega⟩
    rw [laws_numberDigits.l0]
    have e : wrap64 ((i : Int) + 1) = ((i + 1 : Nat) : Int) := by rw [wrap_id _ (by omega)]; omega
    rw [if_pos (by omega), if_pos (by omega), if_pos (by omega), e, rd_nat]
    by_cases h : x.length < 18
    · rw [if_pos (by omega), if_pos (by omega)]
      have hg' := hb.get i
      refine ih k _ (i + 1) (by omega) (by omega) (by omega) (by simp; omega) ?_
      intro z hz
      rcases List.mem_append.1 hz with hz | hz
      · exact hg z hz
      · rw [List.mem_singleton.1 hz, Int.tmod_eq_emod_of_nonneg hg'.1]; omega
    · rw [if_neg (by omega)]
      exact ih k x (i + 1) (by omega) (by omega) (by omega) hx hg

theorem digits_ex (l : List Int) (hb : Byt l) (hl : l.length ≤ 2147483647) (k : Nat) (hk : l.length + 50 < k) : ∃ D, laws_numberDigits.f k l 18 = some D ∧ Norm D := by
  unfold laws_numberDigits.f
  exact l0_ex l hb hl l.length k [] 0 (by omega) (by omega) (by omega) (by simp) (by intro x hx; cases hx)

/-- The digits' letters. -/
def lets (D : List Int) : List Int := D.map fun x => 48 + x
theorem lets_length (D : List Int) : (lets D).length = D.length := by unfold lets; rw [List.length_map]
theorem letters_l0 (D : List Int) (hg : Digs D) (hl : D.length ≤ 1000) (d : Nat) : ∀ (k : Nat) (x : List Int) (i : Nat), D.length - i = d → i ≤ D.length → d < k → x.length ≤ 1000 + i →
    laws_numberLetters.l0 k x D (D.length : Int) (i : Int) = some (x ++ lets (D.drop i)) := by
  induction d with
  | zero =>
    intro k x i hd hi hk hx
    obtain ⟨k, rfl⟩ : ∃ m, k = m + 1 := ⟨k - 1, by omega⟩
    rw [laws_numberLetters.l0, if_neg (by omega), List.drop_of_length_le (by omega)]
    unfold lets; simp
  | succ d ih =>
    intro k x i hd hi hk hx
    obtain ⟨k, rfl⟩ : ∃ m, k = m + 1 := ⟨k - 1, by omega⟩
    have e : wrap64 ((i : Int) + 1) = ((i + 1 : Nat) : Int) := by rw [wrap_id _ (by omega)]; omega
    have hg' := hg.get i
    rw [laws_numberLetters.l0, if_pos (by omega), if_pos (by omega), if_pos (by omega), if_pos (by omega), e, rd_nat]
    rw [ih k _ (i + 1) (by omega) (by omega) (by omega) (by simp; omega)]
    have hdr : D.drop i = D.getD i 0 :: D.drop (i + 1) := by
      rw [List.drop_eq_getElem_cons (by omega), List.getD_eq_getElem?_getD, List.getElem?_eq_getElem (by omega)]; rfl
    rw [hdr]
    unfold lets
    rw [List.map_cons, List.append_assoc, show (48 + D.getD i 0) % 256 = 48 + D.getD i 0 from by omega]
    rfl
theorem letters_f (D : List Int) (hg : Digs D) (hl : D.length ≤ 1000) (k : Nat) (hk : D.length < k) : laws_numberLetters.f k D = some (lets D) := by
  unfold laws_numberLetters.f
  rw [show (0 : Int) = ((0 : Nat) : Int) from rfl, letters_l0 D hg hl D.length k [] 0 (by omega) (by omega) hk (by simp)]
  simp

/-- Pairs of digits. -/
def pairs10 : List Int → List Int
  | a :: b :: t => (10 * a + b) :: pairs10 t
  | _ => []
theorem pairs10_length : ∀ l : List Int, (pairs10 l).length = l.length / 2
  | [] => rfl
  | [a] => by simp [pairs10]
  | a :: b :: t => by simp only [pairs10, List.length_cons, pairs10_length t]; omega
theorem pairs10_rng : ∀ l : List Int, Digs l → ∀ p ∈ pairs10 l, 0 ≤ p ∧ p ≤ 99
  | [], _, p, hp => by cases hp
  | [a], _, p, hp => by cases hp
  | a :: b :: t, h, p, hp => by
    have ha := h a (by simp)
    have hb := h b (by simp)
    simp only [pairs10, List.mem_cons] at hp
    rcases hp with rfl | hp
    · omega
    · exact pairs10_rng t (fun x hx => h x (by simp [hx])) p hp

theorem bytes_l1 (P : List Int) (hP : ∀ p ∈ P, 0 ≤ p ∧ p ≤ 99) (hl : P.length ≤ 1000) (d : Nat) : ∀ (k : Nat) (x : List Int) (i : Nat), P.length - i = d → i ≤ P.length → d < k → x.length ≤ 1000 + i →
    ZN.spec_NumberBytes.l1 k x P (P.length : Int) (i : Int) = some (x ++ (P.drop i).map fun p => p + 1) := by
  induction d with
  | zero =>
    intro k x i hd hi hk hx
    obtain ⟨k, rfl⟩ : ∃ m, k = m + 1 := ⟨k - 1, by omega⟩
    rw [ZN.spec_NumberBytes.l1, if_neg (by omega), List.drop_of_length_le (by omega)]
    simp
  | succ d ih =>
    intro k x i hd hi hk hx
    obtain ⟨k, rfl⟩ : ∃ m, k = m + 1 := ⟨k - 1, by omega⟩
    have e : wrap64 ((i : Int) + 1) = ((i + 1 : Nat) : Int) := by rw [wrap_id _ (by omega)]; omega
    have hdr : P.drop i = P.getD i 0 :: P.drop (i + 1) := by
      rw [List.drop_eq_getElem_cons (by omega), List.getD_eq_getElem?_getD, List.getElem?_eq_getElem (by omega)]; rfl
    have hg' : 0 ≤ P.getD i 0 ∧ P.getD i 0 ≤ 99 := hP _ (List.mem_of_mem_drop (i := i) (by rw [hdr]; simp))
    rw [ZN.spec_NumberBytes.l1, if_pos (by omega), if_pos (by omega), if_pos (by omega), if_pos (by omega), e, rd_nat]
    rw [ih k _ (i + 1) (by omega) (by omega) (by omega) (by simp; omega), hdr, List.map_cons, List.append_assoc, show (P.getD i 0 + 1) % 256 = P.getD i 0 + 1 from by omega]
    rfl
theorem bytes_l2 (P : List Int) (hP : ∀ p ∈ P, 0 ≤ p ∧ p ≤ 99) (hl : P.length < 20) (d : Nat) : ∀ (k : Nat) (x : List Int) (i : Nat), P.length - i = d → i ≤ P.length → d < k → x.length ≤ 1000 + i →
    ZN.spec_NumberBytes.l2 k P x P (P.length : Int) (i : Int) = some (x ++ ((P.drop i).map fun p => 101 - p) ++ [102]) := by
  induction d with
  | zero =>
    intro k x i hd hi hk hx
    obtain ⟨k, rfl⟩ : ∃ m, k = m + 1 := ⟨k - 1, by omega⟩
    rw [ZN.spec_NumberBytes.l2, if_neg (by omega), if_pos (by omega), if_pos (by omega), List.drop_of_length_le (by omega)]
    simp
  | succ d ih =>
    intro k x i hd hi hk hx
    obtain ⟨k, rfl⟩ : ∃ m, k = m + 1 := ⟨k - 1, by omega⟩
    have e : wrap64 ((i : Int) + 1) = ((i + 1 : Nat) : Int) := by rw [wrap_id _ (by omega)]; omega
    have hdr : P.drop i = P.getD i 0 :: P.drop (i + 1) := by
      rw [List.drop_eq_getElem_cons (by omega), List.getD_eq_getElem?_getD, List.getElem?_eq_getElem (by omega)]; rfl
    have hg' : 0 ≤ P.getD i 0 ∧ P.getD i 0 ≤ 99 := hP _ (List.mem_of_mem_drop (i := i) (by rw [hdr]; simp))
    rw [ZN.spec_NumberBytes.l2, if_pos (by omega), if_pos (by omega), if_pos (by omega), if_pos (by omega), e, rd_nat]
    rw [ih k _ (i + 1) (by omega) (by omega) (by omega) (by simp; omega), hdr, List.map_cons, show (101 - P.getD i 0) % 256 = 101 - P.getD i 0 from by omega]
    simp

/-- The form, of pairs and the exponent of the first one. -/
def formOf (neg : Bool) (P : List Int) (power : Int) : List Int :=
  if neg then (62 - power) :: ((P.map fun p => 101 - p) ++ [102]) else (193 + power) :: (P.map fun p => p + 1)

theorem tdiv2 (x : Int) (h : -1000 ≤ x ∧ x ≤ 1000) : -500 ≤ Int.tdiv x 2 ∧ Int.tdiv x 2 ≤ 500 := by
  by_cases h0 : 0 ≤ x
  · rw [Int.tdiv_eq_ediv_of_nonneg h0]; omega
  · have e : x = -(-x) := by omega
    rw [e, Int.neg_tdiv, Int.tdiv_eq_ediv_of_nonneg (by omega)]; omega

theorem bytes_l0 (x8 : List Int) (hg : Digs x8) (he : x8.length % 2 = 0) (hl : x8.length ≤ 38) (neg : Bool) (x9 : Int) (h9 : -62 ≤ Int.tdiv x9 2 ∧ Int.tdiv x9 2 ≤ 62) (d : Nat) : ∀ (k : Nat) (x7 : List Int) (i : Nat), x8.length - 2 * i = 2 * d → 2 * i ≤ x8.length → d + 30 < k → x7 = pairs10 (x8.take (2 * i)) →
    ZN.spec_NumberBytes.l0 k neg x7 x8 x9 ((2 * i : Nat) : Int) = some (formOf neg (pairs10 x8) (Int.tdiv x9 2)) := by
  induction d with
  | zero =>
    intro k x7 i hd hi hk hx
    obtain ⟨k, rfl⟩ : ∃ m, k = m + 1 := ⟨k - 1, by omega⟩
    rw [ZN.spec_NumberBytes.l0, if_neg (by omega)]
    rw [List.take_of_length_le (by omega)] at hx
    have hP := pairs10_rng x8 hg
    have hPl := pairs10_length x8
    subst hx
    rw [wrap_id (Int.tdiv x9 2) (by omega)]
    cases neg with
    | true =>
      rw [if_pos rfl, wrap_id (62 - Int.tdiv x9 2) (by omega), show (0 : Int) = ((0 : Nat) : Int) from rfl, bytes_l2 (pairs10 x8) hP (by omega) (pairs10 x8).length k _ 0 (by omega) (by omega) (by omega) (by simp)]
      unfold formOf
      rw [if_pos rfl, show (62 - Int.tdiv x9 2) % 256 = 62 - Int.tdiv x9 2 from by omega]
      simp
    | false =>
      rw [if_neg (by simp), wrap_id (193 + Int.tdiv x9 2) (by omega), show (0 : Int) = ((0 : Nat) : Int) from rfl, bytes_l1 (pairs10 x8) hP (by omega) (pairs10 x8).length k _ 0 (by omega) (by omega) (by omega) (by simp)]
      unfold formOf
      rw [if_neg (by simp), show (193 + Int.tdiv x9 2) % 256 = 193 + Int.tdiv x9 2 from by omega]
      simp
  | succ d ih =>
    intro k x7 i hd hi hk hx
    obtain ⟨k, rfl⟩ : ∃ m, k = m + 1 := ⟨k - 1, by omega⟩
    have hlen : x7.length ≤ 19 := by rw [hx, pairs10_length, List.length_take]; omega
    have e1 : wrap64 (((2 * i : Nat) : Int) + 1) = ((2 * i + 1 : Nat) : Int) := by rw [wrap_id _ (by omega)]; omega
    have e2 : wrap64 (((2 * i : Nat) : Int) + 2) = ((2 * (i + 1) : Nat) : Int) := by rw [wrap_id _ (by omega)]; omega
    have ga := hg.get (2 * i)
    have gb := hg.get (2 * i + 1)
    rw [ZN.spec_NumberBytes.l0, if_pos (by omega), if_pos (by omega), e1, if_pos (by omega), if_pos (by omega), if_pos (by omega), e2, rd_nat, rd_nat]
    refine ih k _ (i + 1) (by omega) (by omega) (by omega) ?_
    rw [hx]
    have key : ∀ (m : Nat) (l : List Int), 2 * m + 1 < l.length → pairs10 (l.take (2 * (m + 1))) = pairs10 (l.take (2 * m)) ++ [10 * l.getD (2 * m) 0 + l.getD (2 * m + 1) 0] := by
      intro m
      induction m with
      | zero =>
        intro l hl2
        match l, hl2 with
        | a :: b :: t, _ => rfl
      | succ m ihm =>
        intro l hl2
        match l, hl2 with
        | [], h => simp at h
        | [a], h => simp at h
        | a :: b :: t, h =>
          have := ihm t (by simp only [List.length_cons] at h; omega)
          show pairs10 (a :: b :: t.take (2 * (m + 1))) = pairs10 (a :: b :: t.take (2 * m)) ++ _
          rw [pairs10, pairs10, this]
          rfl
    rw [key i x8 (by omega), show ((10 * x8.getD (2 * i) 0) % 256 + x8.getD (2 * i + 1) 0) % 256 = 10 * x8.getD (2 * i) 0 + x8.getD (2 * i + 1) 0 from by omega]

/-- The exponent's pair. -/
def powerOf (e : Int) : Int := Int.tdiv (if Int.tmod e 2 = 0 then e else e - 1) 2
/-- The digits, brought to pairs. -/
def padded (D : List Int) (e : Int) : List Int :=
  let d := if Int.tmod e 2 = 0 then 0 :: D else D
  if d.length % 2 = 1 then d ++ [0] else d

theorem tmod_or (e : Int) : Int.tmod e 2 = 0 ∨ Int.tmod e 2 = 1 ∨ Int.tmod e 2 = -1 := by
  by_cases h0 : 0 ≤ e
  · rw [Int.tmod_eq_emod_of_nonneg h0]; omega
  · have e' : e = -(-e) := by omega
    rw [e', Int.neg_tmod, Int.tmod_eq_emod_of_nonneg (by omega)]; omega
theorem power_rng (e : Int) (h : -100 ≤ e ∧ e ≤ 100) : -62 ≤ powerOf e ∧ powerOf e ≤ 62 := by
  unfold powerOf
  split
  all_goals
    first
      | (by_cases h0 : 0 ≤ e
         · rw [Int.tdiv_eq_ediv_of_nonneg h0]; omega
         · have e' : e = -(-e) := by omega
           rw [e', Int.neg_tdiv, Int.tdiv_eq_ediv_of_nonneg (by omega)]; omega)
      | (by_cases h0 : 0 ≤ e - 1
         · rw [Int.tdiv_eq_ediv_of_nonneg h0]; omega
         · have e' : e - 1 = -(1 - e) := by omega
           rw [e', Int.neg_tdiv, Int.tdiv_eq_ediv_of_nonneg (by omega)]; omega)

theorem digs_cons {D : List Int} (h : Digs D) : Digs (0 :: D) := by
  intro x hx
  rcases List.mem_cons.1 hx with rfl | hx
  · omega
  · exact h x hx
theorem digs_snoc {D : List Int} (h : Digs D) : Digs (D ++ [0]) := by
  intro x hx
  rcases List.mem_append.1 hx with hx | hx
  · exact h x hx
  · rw [List.mem_singleton.1 hx]; omega

/-- The reference's form. -/
theorem bytes_f (D : List Int) (hg : Digs D) (hl : D.length ≤ 18) (h0 : 0 < D.length) (neg : Bool) (e : Int) (he : -100 ≤ e ∧ e ≤ 100) (k : Nat) (hk : 60 ≤ k) :
    ZN.spec_NumberBytes.f k D neg e = some (formOf neg (pairs10 (padded D e)) (powerOf e)) := by
  have hp := power_rng e he
  have stage : ∀ (d : List Int) (x9 : Int), Digs d → d.length ≤ 20 → -62 ≤ Int.tdiv x9 2 ∧ Int.tdiv x9 2 ≤ 62 →
      ZN.spec_NumberBytes.j0 k neg [] d x9 = some (formOf neg (pairs10 (if d.length % 2 = 1 then d ++ [0] else d)) (Int.tdiv x9 2)) := by
    intro d x9 hd hdl h9
    obtain ⟨k, rfl⟩ : ∃ m, k = m + 2 := ⟨k - 2, by omega⟩
    simp only [ZN.spec_NumberBytes.j0, ZN.spec_NumberBytes.j1]
    by_cases ho : d.length % 2 = 1
    · rw [if_pos (by omega), if_pos (by omega), if_pos ho]
      exact bytes_l0 (d ++ [0]) (digs_snoc hd) (by rw [List.length_append]; simp; omega) (by rw [List.length_append]; simp; omega) neg x9 h9 ((d.length + 1) / 2) k [] 0 (by rw [List.length_append]; simp; omega) (by omega) (by omega) rfl
    · rw [if_neg (by omega), if_neg ho]
      exact bytes_l0 d hd (by omega) (by omega) neg x9 h9 (d.length / 2) k [] 0 (by omega) (by omega) (by omega) rfl
  unfold ZN.spec_NumberBytes.f
  rw [if_neg (by omega)]
  simp only [Option.bind_some, List.nil_append, List.length_nil, Nat.zero_add]
  rw [if_pos (by omega)]
  unfold padded powerOf
  by_cases hev : Int.tmod e 2 = 0
  · rw [if_pos hev, if_pos hev, if_pos hev]
    simp only [List.length_cons, List.length_nil]
    rw [if_pos (by omega)]
    have := stage (0 :: D) e (digs_cons hg) (by simp; omega) (by unfold powerOf at hp; rwa [if_pos hev] at hp)
    exact this
  · rw [if_neg hev, if_neg hev, if_neg hev, wrap_id (e - 1) (by omega)]
    exact stage D (e - 1) hg (by omega) (by unfold powerOf at hp; rwa [if_neg hev] at hp)

theorem pair_neg (a b : Int) (ha : 0 ≤ a ∧ a ≤ 9) (hb : 0 ≤ b ∧ b ≤ 9) : pairB true (48 + a) (48 + b) = 101 - (10 * a + b) := by
  unfold pairB; simp only [if_true]; omega
theorem pair_pos (a b : Int) (ha : 0 ≤ a ∧ a ≤ 9) (hb : 0 ≤ b ∧ b ≤ 9) : pairB false (48 + a) (48 + b) = 10 * a + b + 1 := by
  unfold pairB; simp only [Bool.false_eq_true, if_false]; omega
theorem one_neg (a : Int) (ha : 0 ≤ a ∧ a ≤ 9) : oneB true (48 + a) = 101 - (10 * a + 0) := by
  unfold oneB; simp only [if_true]; omega
theorem one_pos (a : Int) (ha : 0 ≤ a ∧ a ≤ 9) : oneB false (48 + a) = 10 * a + 0 + 1 := by
  unfold oneB; simp only [Bool.false_eq_true, if_false]; omega
theorem pairs_lets (neg : Bool) : ∀ d : List Int, Digs d → pairs neg (lets d) = (pairs10 (if d.length % 2 = 1 then d ++ [0] else d)).map fun p => if neg then 101 - p else p + 1
  | [], _ => rfl
  | [a], h => by
    have ha := h a (by simp)
    cases neg
    · show [oneB false (48 + a)] = _
      rw [one_pos a ha]; rfl
    · show [oneB true (48 + a)] = _
      rw [one_neg a ha]; rfl
  | a :: b :: t, h => by
    have ha := h a (by simp)
    have hb := h b (by simp)
    have ih := pairs_lets neg t (fun x hx => h x (by simp [hx]))
    have e : (if (a :: b :: t).length % 2 = 1 then (a :: b :: t) ++ [0] else a :: b :: t) = a :: b :: (if t.length % 2 = 1 then t ++ [0] else t) := by
      by_cases ht : t.length % 2 = 1
      · rw [if_pos (by simp only [List.length_cons]; omega), if_pos ht]; rfl
      · rw [if_neg (by simp only [List.length_cons]; omega), if_neg ht]
    rw [e]
    show pairB neg (48 + a) (48 + b) :: pairs neg (lets t) = _
    rw [ih, pairs10, List.map_cons]
    cases neg
    · rw [pair_pos a b ha hb]; simp
    · rw [pair_neg a b ha hb]; simp

theorem xor_small : ∀ n : Nat, n < 128 → Go.bits .xor .u8 (n : Int) 127 = 127 - (n : Int) := by decide +kernel
theorem or_small : ∀ n : Nat, n < 128 → Go.bits .or .u8 (n : Int) 128 = 128 + (n : Int) := by decide +kernel
theorem power_eq (e : Int) (he : -100 ≤ e ∧ e ≤ 100) : Int.tdiv (if e < 0 then e - 1 else e) 2 = powerOf e := by
  unfold powerOf
  by_cases h0 : e < 0
  · rw [if_pos h0]
    by_cases hev : Int.tmod e 2 = 0
    · rw [if_pos hev]
      have e1 : e - 1 = -(1 - e) := by omega
      have e2 : e = -(-e) := by omega
      have e3 : Int.tdiv e 2 = -((-e) / 2) := by
        conv => lhs; rw [e2]
        rw [Int.neg_tdiv, Int.tdiv_eq_ediv_of_nonneg (by omega)]
      have e4 : Int.tdiv (e - 1) 2 = -((1 - e) / 2) := by rw [e1, Int.neg_tdiv, Int.tdiv_eq_ediv_of_nonneg (by omega)]
      have e5 : Int.tmod e 2 = -((-e) % 2) := by
        conv => lhs; rw [e2]
        rw [Int.neg_tmod, Int.tmod_eq_emod_of_nonneg (by omega)]
      rw [e3, e4]
      omega
    · rw [if_neg hev]
  · rw [if_neg h0]
    by_cases hev : Int.tmod e 2 = 0
    · rw [if_pos hev]
    · rw [if_neg hev]
      rw [Int.tmod_eq_emod_of_nonneg (by omega)] at hev
      rw [Int.tdiv_eq_ediv_of_nonneg (by omega), Int.tdiv_eq_ediv_of_nonneg (by omega)]
      omega
theorem head_eq (neg : Bool) (e : Int) (he : -100 ≤ e ∧ e ≤ 100) : headB neg e = if neg then 62 - powerOf e else 193 + powerOf e := by
  have hp := power_rng e he
  unfold headB
  rw [power_eq e he]
  generalize powerOf e = p at *
  obtain ⟨n, hn⟩ := Int.eq_ofNat_of_zero_le (show 0 ≤ p + 65 by omega)
  have e1 : (p + 1 + 64) % 256 = (n : Int) := by omega
  simp only [e1]
  cases neg
  · rw [if_neg (by simp), if_neg (by simp), or_small n (by omega)]; omega
  · rw [if_pos rfl, if_pos rfl, xor_small n (by omega)]; omega

/-- The package's form is the reference's. -/
theorem toNum_lets (D : List Int) (hg : Digs D) (hl : D.length ≤ 18) (h0 : 0 < D.length) (neg : Bool) (e : Int) (he : -100 ≤ e ∧ e ≤ 100) :
    toNum (lets D) neg e = formOf neg (pairs10 (padded D e)) (powerOf e) := by
  have hev : evened (lets D) e = lets (if Int.tmod e 2 = 0 then 0 :: D else D) := by
    unfold evened
    split
    · rfl
    · rfl
  have hd : Digs (if Int.tmod e 2 = 0 then 0 :: D else D) := by split; exact digs_cons hg; exact hg
  have hdl : (if Int.tmod e 2 = 0 then 0 :: D else D).length ≤ 19 := by
    split
    · simp only [List.length_cons]; omega
    · omega
  unfold toNum
  rw [if_neg (by rw [lets_length]; omega), hev, pairs_lets neg _ hd, head_eq neg e he, lets_length]
  show _ = formOf neg (pairs10 (if (if Int.tmod e 2 = 0 then 0 :: D else D).length % 2 = 1 then (if Int.tmod e 2 = 0 then 0 :: D else D) ++ [0] else (if Int.tmod e 2 = 0 then 0 :: D else D))) (powerOf e)
  generalize (if Int.tmod e 2 = 0 then 0 :: D else D) = d at *
  unfold formOf
  cases neg
  · simp
  · simp; omega

theorem clone_f (l : List Int) (h : l.length < 1000) : bytes_Clone.f l = some l := by unfold bytes_Clone.f; rw [if_pos (by omega)]
theorem made_f (D : List Int) (hl : D.length ≤ 18) (neg : Bool) (e : Int) (he : -100 ≤ e ∧ e ≤ 100) : impl_NumberMade.f (lets D) neg e = some (toNum (lets D) neg e) := by
  unfold impl_NumberMade.f
  rw [clone_f _ (by rw [lets_length]; omega)]
  simp only [Option.bind_some]
  unfold converters_ToNumber.f
  rw [if_pos (by rw [lets_length]; omega), if_pos (by omega)]
  rfl
end Go.Proofs.YtepooaejlofkkaaDoor.Pure

namespace Go.Proofs.YtepooaejlofkkaaDoor.Pure
open Go Go.RowKit Go.Proofs.YtepooaejlofkkaaDoor Go.Proofs.YtepooaejlofkkaaDoor.X Go.Proofs.YtepooaejlofkkaaDoor.ZN Go.Proofs.YtepooaejlofkkaaDoorW.PrintWords Go.Proofs.YtepooaejlofkkaaDoorW.PrintLast Go.Proofs.YtepooaejlofkkaaDoorW.PrintMore
set_option linter.unusedVariables false
set_option linter.unusedSimpArgs false

theorem byt_of {l : List Int} (hw : ∀ x ∈ l, (Lit.int .u8 x).wf = true) : Byt l := fun x hx => rng (hw x hx)
theorem awake_k (k : Nat) (h : 60 ≤ k) : ZN.laws_numberAwake.f k = some true := by
  obtain ⟨d, rfl⟩ : ∃ d, k = 60 + d := ⟨k - 60, by omega⟩
  induction d with
  | zero => exact awake
  | succ d ih => exact ZN.laws_numberAwake.mono (60 + d) true (ih (by omega))
theorem tmod_rng (a m : Int) (hm : 0 < m) (h : -128 ≤ a ∧ a ≤ 127) (hm2 : m ≤ 100) : -100 ≤ Int.tmod a m ∧ Int.tmod a m ≤ 100 := by
  by_cases h0 : 0 ≤ a
  · rw [Int.tmod_eq_emod_of_nonneg h0]
    have := Int.emod_lt_of_pos a hm
    have := Int.emod_nonneg a (show m ≠ 0 by omega)
    omega
  · have e : a = -(-a) := by omega
    rw [e, Int.neg_tmod, Int.tmod_eq_emod_of_nonneg (by omega)]
    have := Int.emod_lt_of_pos (-a) hm
    have := Int.emod_nonneg (-a) (show m ≠ 0 by omega)
    omega

theorem FnNumberMade (l : List Int) (hm : l.length ≤ maxLen) (hy : l.length * 1 ≤ 140737488351232) (hw : ∀ x ∈ l, (Lit.int .u8 x).wf = true) (a1 : Bool) (a2 : Int) (w2 : (Lit.int .i8 a2).wf = true) :
    ∃ k, laws_FnNumberMade.f k l a1 a2 = some true := by
  have hb := byt_of hw
  have h2 : -128 ≤ a2 ∧ a2 ≤ 127 := rng w2
  refine ⟨l.length + 100, ?_⟩
  unfold laws_FnNumberMade.f
  by_cases hl : (l.length : Int) > 2147483647
  · rw [if_pos hl]
  · rw [if_neg hl]
    obtain ⟨D, hD, hN⟩ := digits_ex l hb (by omega) (l.length + 100) (by omega)
    rw [hD]
    simp only [Option.bind_some]
    have hA := awake_k (l.length + 100) (by omega)
    by_cases h0 : (D.length : Int) = 0
    · rw [if_pos h0]
      have e : impl_NumberMade.f [] false 0 = some [128] := by
        have := made_f [] (by simp) false 0 (by omega)
        exact this
      rw [e]
      simp only [Option.bind_some]
      have e2 : spec_NumberSame.f [128] [128] = some true := by unfold spec_NumberSame.f; rw [beq_self_eq_true]
      rw [e2]
      simp only [Option.bind_some, if_true]
      rw [hA]
      rfl
    · rw [if_neg h0]
      have hr := tmod_rng a2 61 (by omega) h2 (by omega)
      have hlen := hN.len
      rw [letters_f D hN.digs (by omega) _ (by omega)]
      simp only [Option.bind_some]
      rw [wrap_id (Int.tmod a2 61) (by omega), made_f D hlen a1 _ hr]
      simp only [Option.bind_some]
      rw [bytes_f D hN.digs hlen (by omega) a1 _ hr _ (by omega), toNum_lets D hN.digs hlen (by omega) a1 _ hr]
      simp only [Option.bind_some]
      have e2 : ∀ x, spec_NumberSame.f x x = some true := fun x => by unfold spec_NumberSame.f; rw [beq_self_eq_true]
      rw [e2]
      simp only [Option.bind_some, if_true]
      rw [hA]
      rfl
end Go.Proofs.YtepooaejlofkkaaDoor.Pure

namespace Go.Proofs.YtepooaejlofkkaaDoor.Pure
open Go Go.RowKit Go.Proofs.YtepooaejlofkkaaDoor Go.Proofs.YtepooaejlofkkaaDoor.X Go.Proofs.YtepooaejlofkkaaDoor.ZN Go.Proofs.YtepooaejlofkkaaDoorW.PrintWords Go.Proofs.YtepooaejlofkkaaDoorW.PrintLast Go.Proofs.YtepooaejlofkkaaDoorW.PrintMore
set_option linter.unusedVariables false
set_option linter.unusedSimpArgs false

/-- The order of lists: by the first element that differs, else the shorter one is less. -/
def cmpZ : List Int → List Int → Int
  | [], [] => 0
  | [], _ :: _ => -1
  | _ :: _, [] => 1
  | a :: xs, b :: ys => if a < b then -1 else if b < a then 1 else cmpZ xs ys
theorem cmpZ_neg : ∀ l m : List Int, cmpZ m l = -cmpZ l m
  | [], [] => rfl
  | [], _ :: _ => rfl
  | _ :: _, [] => rfl
  | a :: xs, b :: ys => by
    simp only [cmpZ]
    have := cmpZ_neg xs ys
    by_cases h1 : b < a
    · rw [if_pos h1, if_neg (by omega), if_pos h1]
    · rw [if_neg h1]
      by_cases h2 : a < b
      · rw [if_pos h2, if_pos h2]; rfl
      · rw [if_neg h2, if_neg h2, if_neg h1]; exact this
theorem byt_cons {a : Int} {l : List Int} (h : Byt (a :: l)) : (0 ≤ a ∧ a ≤ 255) ∧ Byt l := ⟨h a (by simp), fun x hx => h x (by simp [hx])⟩
theorem u8_lt (a b : Int) (ha : 0 ≤ a ∧ a ≤ 255) (hb : 0 ≤ b ∧ b ≤ 255) : (UInt8.ofNat a.toNat < UInt8.ofNat b.toNat) ↔ a < b := by
  rw [UInt8.lt_iff_toNat_lt, UInt8.toNat_ofNat', UInt8.toNat_ofNat']
  omega
theorem compare_cmpZ : ∀ l m : List Int, Byt l → Byt m → Lib.compareBytes (Lib.bytesOf l) (Lib.bytesOf m) = cmpZ l m
  | [], [], _, _ => rfl
  | [], _ :: _, _, _ => rfl
  | _ :: _, [], _, _ => rfl
  | a :: xs, b :: ys, h, k => by
    obtain ⟨ha, h'⟩ := byt_cons h
    obtain ⟨hb, k'⟩ := byt_cons k
    show (if UInt8.ofNat a.toNat < UInt8.ofNat b.toNat then (-1 : Int) else if UInt8.ofNat b.toNat < UInt8.ofNat a.toNat then 1 else Lib.compareBytes (Lib.bytesOf xs) (Lib.bytesOf ys)) = _
    simp only [u8_lt a b ha hb, u8_lt b a hb ha, compare_cmpZ xs ys h' k', cmpZ]

theorem cmpZ_pos : ∀ P Q : List Int, cmpZ (P.map fun p => p + 1) (Q.map fun p => p + 1) = cmpZ P Q
  | [], [] => rfl
  | [], _ :: _ => rfl
  | _ :: _, [] => rfl
  | a :: xs, b :: ys => by
    simp only [List.map_cons, cmpZ, cmpZ_pos xs ys]
    by_cases h1 : a < b
    · rw [if_pos (by omega), if_pos h1]
    · rw [if_neg (by omega), if_neg h1]
      by_cases h2 : b < a
      · rw [if_pos (by omega), if_pos h2]
      · rw [if_neg (by omega), if_neg h2]
theorem cmpZ_turn : ∀ P Q : List Int, (∀ p ∈ P, 0 ≤ p ∧ p ≤ 99) → (∀ p ∈ Q, 0 ≤ p ∧ p ≤ 99) → cmpZ ((P.map fun p => 101 - p) ++ [102]) ((Q.map fun p => 101 - p) ++ [102]) = cmpZ Q P
  | [], [], _, _ => by simp [cmpZ]
  | [], b :: ys, _, k => by
    have := k b (by simp)
    simp only [List.map_nil, List.nil_append, List.map_cons, List.cons_append, cmpZ]
    rw [if_neg (by omega), if_pos (by omega)]
  | a :: xs, [], h, _ => by
    have := h a (by simp)
    simp only [List.map_nil, List.nil_append, List.map_cons, List.cons_append, cmpZ]
    rw [if_pos (by omega)]
  | a :: xs, b :: ys, h, k => by
    simp only [List.map_cons, List.cons_append, cmpZ, cmpZ_turn xs ys (fun p hp => h p (by simp [hp])) (fun p hp => k p (by simp [hp]))]
    by_cases h1 : b < a
    · rw [if_pos (by omega), if_pos h1]
    · rw [if_neg (by omega), if_neg h1]
      by_cases h2 : a < b
      · rw [if_pos (by omega), if_pos h2]
      · rw [if_neg (by omega), if_neg h2]
theorem form_pos (P Q : List Int) (a b : Int) : cmpZ (formOf false P a) (formOf false Q b) = cmpZ (a :: P) (b :: Q) := by
  simp only [formOf, Bool.false_eq_true, if_false, cmpZ, cmpZ_pos]
  by_cases h1 : a < b
  · rw [if_pos (by omega), if_pos h1]
  · rw [if_neg (by omega), if_neg h1]
    by_cases h2 : b < a
    · rw [if_pos (by omega), if_pos h2]
    · rw [if_neg (by omega), if_neg h2]
theorem form_neg (P Q : List Int) (a b : Int) (hP : ∀ p ∈ P, 0 ≤ p ∧ p ≤ 99) (hQ : ∀ p ∈ Q, 0 ≤ p ∧ p ≤ 99) : cmpZ (formOf true P a) (formOf true Q b) = cmpZ (b :: Q) (a :: P) := by
  simp only [formOf, if_true, cmpZ, cmpZ_turn P Q hP hQ]
  by_cases h1 : b < a
  · rw [if_pos (by omega), if_pos h1]
  · rw [if_neg (by omega), if_neg h1]
    by_cases h2 : a < b
    · rw [if_pos (by omega), if_pos h2]
    · rw [if_neg (by omega), if_neg h2]

/-- The last one is not 0. -/
def NZ : List Int → Prop
  | [] => True
  | [a] => a ≠ 0
  | _ :: b :: t => NZ (b :: t)
theorem NZ.tail {a : Int} {t : List Int} (h : NZ (a :: t)) : NZ t := by
  cases t with
  | nil => trivial
  | cons b t => exact h
theorem nz_of : ∀ l : List Int, (0 < l.length → l.getD (l.length - 1) 0 ≠ 0) → NZ l
  | [], _ => trivial
  | [a], h => h (by simp)
  | a :: b :: t, h => nz_of (b :: t) (fun _ => by
    have := h (by simp)
    simpa using this)
theorem NZ.cons {a : Int} {t : List Int} (h : NZ t) (ht : 0 < t.length) : NZ (a :: t) := by
  cases t with
  | nil => simp at ht
  | cons b t => exact h
def pad (d : List Int) : List Int := if d.length % 2 = 1 then d ++ [0] else d
theorem pad_two (a b : Int) (t : List Int) : pad (a :: b :: t) = a :: b :: pad t := by
  unfold pad
  by_cases ht : t.length % 2 = 1
  · rw [if_pos (by simp only [List.length_cons]; omega), if_pos ht]; rfl
  · rw [if_neg (by simp only [List.length_cons]; omega), if_neg ht]
theorem pairs_pad_two (a b : Int) (t : List Int) : pairs10 (pad (a :: b :: t)) = (10 * a + b) :: pairs10 (pad t) := by rw [pad_two, pairs10]
theorem pairs_pad_one (a : Int) : pairs10 (pad [a]) = [10 * a + 0] := rfl
theorem pairs_pad_ne (t : List Int) (h : 0 < t.length) : ∃ p r, pairs10 (pad t) = p :: r := by
  match t, h with
  | [a], _ => exact ⟨_, _, rfl⟩
  | a :: b :: t, _ => exact ⟨_, _, pairs_pad_two a b t⟩
theorem nz_two {a b : Int} {t : List Int} (h : NZ (a :: b :: t)) (hb : b = 0) : 0 < t.length := by
  cases t with
  | nil => exact absurd hb h
  | cons c t => simp
theorem cmp_pairs : ∀ x y : List Int, Digs x → Digs y → NZ x → NZ y → cmpZ (pairs10 (pad x)) (pairs10 (pad y)) = cmpZ x y
  | [], [], _, _, _, _ => rfl
  | [], [b], _, _, _, _ => rfl
  | [], b :: c :: t, _, _, _, _ => by rw [pairs_pad_two]; rfl
  | [a], [], _, _, _, _ => rfl
  | a :: b :: t, [], _, _, _, _ => by rw [pairs_pad_two]; rfl
  | [a], [b], _, _, _, _ => by
    rw [pairs_pad_one, pairs_pad_one]
    simp only [cmpZ]
    by_cases h1 : a < b
    · rw [if_pos (by omega), if_pos h1]
    · rw [if_neg (by omega), if_neg h1]
      by_cases h2 : b < a
      · rw [if_pos (by omega), if_pos h2]
      · rw [if_neg (by omega), if_neg h2]
  | [a], b :: c :: t, _, hy, _, ny => by
    have hc := hy c (by simp)
    rw [pairs_pad_one, pairs_pad_two]
    simp only [cmpZ]
    by_cases h1 : a < b
    · rw [if_pos (by omega), if_pos h1]
    · rw [if_neg h1]
      by_cases h2 : b < a
      · rw [if_neg (by omega), if_pos (by omega), if_pos h2]
      · rw [if_neg h2]
        by_cases hc0 : c = 0
        · rw [if_neg (by omega), if_neg (by omega)]
          obtain ⟨p, r, e⟩ := pairs_pad_ne t (nz_two ny hc0)
          rw [e]; rfl
        · rw [if_pos (by omega)]
  | b :: c :: t, [a], hy, _, ny, _ => by
    have hc := hy c (by simp)
    rw [pairs_pad_one, pairs_pad_two]
    simp only [cmpZ]
    by_cases h1 : b < a
    · rw [if_pos (by omega), if_pos h1]
    · rw [if_neg h1]
      by_cases h2 : a < b
      · rw [if_neg (by omega), if_pos (by omega), if_pos h2]
      · rw [if_neg h2]
        by_cases hc0 : c = 0
        · rw [if_neg (by omega), if_neg (by omega)]
          obtain ⟨p, r, e⟩ := pairs_pad_ne t (nz_two ny hc0)
          rw [e]; rfl
        · rw [if_neg (by omega), if_pos (by omega)]
  | a :: b :: s, c :: d :: t, hx, hy, nx, ny => by
    have hb := hx b (by simp)
    have hd := hy d (by simp)
    have ih := cmp_pairs s t (fun z hz => hx z (by simp [hz])) (fun z hz => hy z (by simp [hz])) nx.tail.tail ny.tail.tail
    rw [pairs_pad_two, pairs_pad_two]
    simp only [cmpZ, ih]
    by_cases h1 : a < c
    · rw [if_pos (by omega), if_pos h1]
    · rw [if_neg h1]
      by_cases h2 : c < a
      · rw [if_neg (by omega), if_pos (by omega), if_pos h2]
      · rw [if_neg h2]
        by_cases h3 : b < d
        · rw [if_pos (by omega), if_pos h3]
        · rw [if_neg (by omega), if_neg h3]
          by_cases h4 : d < b
          · rw [if_pos (by omega), if_pos h4]
          · rw [if_neg (by omega), if_neg h4]

theorem tmod_two (e : Int) : Int.tmod e 2 = 0 ↔ e % 2 = 0 := by
  by_cases h0 : 0 ≤ e
  · rw [Int.tmod_eq_emod_of_nonneg h0]
  · have e' : e = -(-e) := by omega
    have : Int.tmod e 2 = -((-e) % 2) := by
      conv => lhs; rw [e']
      rw [Int.neg_tmod, Int.tmod_eq_emod_of_nonneg (by omega)]
    rw [this]; omega
theorem power_floor (e : Int) : powerOf e = e / 2 := by
  unfold powerOf
  have hdiv : ∀ x : Int, x % 2 = 0 → Int.tdiv x 2 = x / 2 := by
    intro x hx
    by_cases h0 : 0 ≤ x
    · rw [Int.tdiv_eq_ediv_of_nonneg h0]
    · have e' : x = -(-x) := by omega
      have : Int.tdiv x 2 = -((-x) / 2) := by
        conv => lhs; rw [e']
        rw [Int.neg_tdiv, Int.tdiv_eq_ediv_of_nonneg (by omega)]
      rw [this]; omega
  by_cases h : e % 2 = 0
  · rw [if_pos ((tmod_two e).2 h), hdiv e h]
  · rw [if_neg (fun h' => h ((tmod_two e).1 h')), hdiv (e - 1) (by omega)]; omega
theorem padded_pad (D : List Int) (e : Int) : padded D e = pad (if e % 2 = 0 then 0 :: D else D) := by
  unfold padded pad
  by_cases h : e % 2 = 0
  · rw [if_pos ((tmod_two e).2 h), if_pos h]
  · rw [if_neg (fun h' => h ((tmod_two e).1 h')), if_neg h]

theorem first_small (D : List Int) (h : Norm D) (h0 : 0 < D.length) : ∃ p r, pairs10 (pad (0 :: D)) = p :: r ∧ p ≤ 9 := by
  match D, h0, h with
  | a :: t, _, h =>
    have := h.digs a (by simp)
    exact ⟨_, _, pairs_pad_two 0 a t, by omega⟩
theorem first_great (D : List Int) (h : Norm D) (h0 : 0 < D.length) : ∃ p r, pairs10 (pad D) = p :: r ∧ 10 ≤ p := by
  have hf := h.first h0
  match D, h0, h, hf with
  | [a], _, h, hf =>
    have := h.digs a (by simp)
    have hf' : a ≠ 0 := hf
    exact ⟨_, _, pairs_pad_one a, by omega⟩
  | a :: b :: t, _, h, hf =>
    have := h.digs a (by simp)
    have := h.digs b (by simp)
    have hf' : a ≠ 0 := hf
    exact ⟨_, _, pairs_pad_two a b t, by omega⟩

/-- The order of two forms from 0 on. -/
theorem cmp_forms (D E : List Int) (hD : Norm D) (hE : Norm E) (d0 : 0 < D.length) (e0 : 0 < E.length) (p q : Int) :
    cmpZ (powerOf p :: pairs10 (padded D p)) (powerOf q :: pairs10 (padded E q)) = if p < q then -1 else if q < p then 1 else cmpZ D E := by
  have nD := nz_of D hD.last
  have nE := nz_of E hE.last
  rw [power_floor, power_floor, padded_pad, padded_pad]
  simp only [cmpZ]
  by_cases h1 : p < q
  · rw [if_pos h1]
    by_cases h2 : p / 2 < q / 2
    · rw [if_pos h2]
    · rw [if_neg h2, if_neg (by omega), if_pos (show p % 2 = 0 by omega), if_neg (show ¬ q % 2 = 0 by omega)]
      obtain ⟨a, r, e1, ha⟩ := first_small D hD d0
      obtain ⟨b, s, e2, hb⟩ := first_great E hE e0
      rw [e1, e2]
      simp only [cmpZ]
      rw [if_pos (by omega)]
  · rw [if_neg h1]
    by_cases h3 : q < p
    · rw [if_pos h3, if_neg (by omega)]
      by_cases h2 : q / 2 < p / 2
      · rw [if_pos h2]
      · rw [if_neg h2, if_neg (show ¬ p % 2 = 0 by omega), if_pos (show q % 2 = 0 by omega)]
        obtain ⟨a, r, e1, ha⟩ := first_great D hD d0
        obtain ⟨b, s, e2, hb⟩ := first_small E hE e0
        rw [e1, e2]
        simp only [cmpZ]
        rw [if_neg (by omega), if_pos (by omega)]
    · obtain rfl : p = q := by omega
      rw [if_neg h3, if_neg (by omega), if_neg (by omega)]
      by_cases h4 : p % 2 = 0
      · rw [if_pos h4, if_pos h4, cmp_pairs _ _ (digs_cons hD.digs) (digs_cons hE.digs) (nD.cons d0) (nE.cons e0)]
        simp only [cmpZ]
        rw [if_neg (by omega), if_neg (by omega)]
      · rw [if_neg h4, if_neg h4, cmp_pairs _ _ hD.digs hE.digs nD nE]

theorem digs_byt {D : List Int} (h : Digs D) : Byt D := fun x hx => by have := h x hx; omega
theorem form_byt (neg : Bool) (P : List Int) (a : Int) (hP : ∀ p ∈ P, 0 ≤ p ∧ p ≤ 99) (ha : -62 ≤ a ∧ a ≤ 62) : Byt (formOf neg P a) := by
  intro x hx
  cases neg with
  | false =>
    simp only [formOf, Bool.false_eq_true, if_false, List.mem_cons, List.mem_map] at hx
    rcases hx with rfl | ⟨p, hp, rfl⟩
    · omega
    · have := hP p hp; omega
  | true =>
    simp only [formOf, if_true, List.mem_cons, List.mem_append, List.mem_map, List.not_mem_nil, or_false] at hx
    rcases hx with rfl | ⟨p, hp, rfl⟩ | rfl
    · omega
    · have := hP p hp; omega
    · omega
theorem padded_digs {D : List Int} (h : Digs D) (e : Int) : Digs (padded D e) := by
  rw [padded_pad]
  unfold pad
  have h' : Digs (if e % 2 = 0 then 0 :: D else D) := by split; exact digs_cons h; exact h
  generalize (if e % 2 = 0 then 0 :: D else D) = d at *
  split
  · exact digs_snoc h'
  · exact h'

/-- Whether a number is below another one. -/
def lessB (D : List Int) (minus : Bool) (p : Int) (E : List Int) (also : Bool) (q : Int) : Bool :=
  if (minus != also) = true then minus else if minus then decide (q < p ∨ (p = q ∧ 0 < cmpZ D E)) else decide (p < q ∨ (p = q ∧ cmpZ D E < 0))
theorem less_f (D E : List Int) (hD : Digs D) (hE : Digs E) (minus also : Bool) (p q : Int) : laws_numberLess.f D minus p E also q = some (lessB D minus p E also q) := by
  have hc : bytes_Compare.f D E = some (cmpZ D E) := by unfold bytes_Compare.f; rw [compare_cmpZ D E (digs_byt hD) (digs_byt hE)]
  unfold laws_numberLess.f lessB
  rw [hc]
  simp only [Option.bind_some]
  by_cases h : (minus != also) = true
  · rw [if_pos h, if_pos h]
  · rw [if_neg h, if_neg h]
    by_cases h1 : p < q
    · rw [if_pos h1, if_neg (show ¬ p > q by omega), if_neg (show ¬ p = q by omega)]
      cases minus
      · simp [h1]
      · simp; omega
    · rw [if_neg h1]
      by_cases h2 : p = q
      · subst h2
        rw [if_pos rfl, if_neg (show ¬ p > p by omega)]
        cases minus
        · simp
        · simp
      · rw [if_neg h2, if_pos (show p > q by omega)]
        cases minus
        · simp; omega
        · have : q < p := by omega
          simp [this]

theorem FnNumberDecimals (l : List Int) (hm : l.length ≤ maxLen) (hy : l.length * 1 ≤ 140737488351232) (hw : ∀ x ∈ l, (Lit.int .u8 x).wf = true)
    (m : List Int) (hm' : m.length ≤ maxLen) (hy' : m.length * 1 ≤ 140737488351232) (hw' : ∀ x ∈ m, (Lit.int .u8 x).wf = true)
    (a2 a3 : Bool) (a4 : Int) (w4 : (Lit.int .i8 a4).wf = true) (a5 : Int) (w5 : (Lit.int .i8 a5).wf = true) :
    ∃ k, laws_FnNumberDecimals.f k l m a2 a3 a4 a5 = some true := by
  have hb := byt_of hw
  have hb' := byt_of hw'
  have h4 : -128 ≤ a4 ∧ a4 ≤ 127 := rng w4
  have h5 : -128 ≤ a5 ∧ a5 ≤ 127 := rng w5
  refine ⟨l.length + m.length + 100 + 1 + 1, ?_⟩
  unfold laws_FnNumberDecimals.f
  by_cases hl : (l.length : Int) > 2147483647
  · rw [if_pos hl]; simp only [laws_FnNumberDecimals.j0, if_true]
  · rw [if_neg hl]
    simp only [laws_FnNumberDecimals.j0]
    by_cases hl' : (m.length : Int) > 2147483647
    · rw [if_pos (by simpa using hl')]
    · rw [if_neg (by simpa using hl')]
      obtain ⟨D, hD, nD⟩ := digits_ex l hb (by omega) (l.length + m.length + 100 + 1) (by omega)
      obtain ⟨E, hE, nE⟩ := digits_ex m hb' (by omega) (l.length + m.length + 100 + 1) (by omega)
      have hA := awake_k (l.length + m.length + 100) (by omega)
      rw [hD]
      simp only [Option.bind_some]
      rw [hE]
      simp only [Option.bind_some, laws_FnNumberDecimals.j1]
      by_cases d0 : (D.length : Int) = 0
      · rw [if_pos d0]; simp only [if_true]; rw [hA]; rfl
      · rw [if_neg d0]
        by_cases e0 : (E.length : Int) = 0
        · rw [if_pos (by simpa using e0), hA]; rfl
        · rw [if_neg (by simpa using e0)]
          have hr4 := tmod_rng a4 20 (by omega) h4 (by omega)
          have hr5 := tmod_rng a5 20 (by omega) h5 (by omega)
          have dl := nD.len
          have el := nE.len
          rw [letters_f D nD.digs (by omega) _ (by omega), letters_f E nE.digs (by omega) _ (by omega)]
          simp only [Option.bind_some]
          rw [wrap_id (Int.tmod a4 20) (by omega), wrap_id (Int.tmod a5 20) (by omega)]
          generalize Int.tmod a4 20 = p at *
          generalize Int.tmod a5 20 = q at *
          rw [made_f D dl a2 p hr4, made_f E el a3 q hr5]
          simp only [Option.bind_some]
          rw [toNum_lets D nD.digs dl (by omega) a2 p hr4, toNum_lets E nE.digs el (by omega) a3 q hr5, less_f D E nD.digs nE.digs, less_f E D nE.digs nD.digs]
          have hP := pairs10_rng _ (padded_digs nD.digs p)
          have hQ := pairs10_rng _ (padded_digs nE.digs q)
          have hp := power_rng p hr4
          have hq := power_rng q hr5
          have hc : bytes_Compare.f (formOf a2 (pairs10 (padded D p)) (powerOf p)) (formOf a3 (pairs10 (padded E q)) (powerOf q)) = some (cmpZ (formOf a2 (pairs10 (padded D p)) (powerOf p)) (formOf a3 (pairs10 (padded E q)) (powerOf q))) := by
            unfold bytes_Compare.f
            rw [compare_cmpZ _ _ (form_byt _ _ _ hP hp) (form_byt _ _ _ hQ hq)]
          rw [hc]
          simp only [Option.bind_some]
          have f1 := cmp_forms D E nD nE (by omega) (by omega) p q
          have f2 := cmp_forms E D nE nD (by omega) (by omega) q p
          have g1 := form_pos (pairs10 (padded D p)) (pairs10 (padded E q)) (powerOf p) (powerOf q)
          have g2 := form_neg (pairs10 (padded D p)) (pairs10 (padded E q)) (powerOf p) (powerOf q) hP hQ
          have hn := cmpZ_neg D E
          have h1 : (decide (cmpZ (formOf a2 (pairs10 (padded D p)) (powerOf p)) (formOf a3 (pairs10 (padded E q)) (powerOf q)) < 0) == lessB D a2 p E a3 q) = true ∧
              (decide (cmpZ (formOf a2 (pairs10 (padded D p)) (powerOf p)) (formOf a3 (pairs10 (padded E q)) (powerOf q)) > 0) == lessB E a3 q D a2 p) = true := by
            cases a2 <;> cases a3
            · rw [g1, f1]
              unfold lessB
              generalize cmpZ D E = c at *
              rw [hn]
              simp only [bne_self_eq_false, Bool.false_eq_true, if_false, beq_iff_eq, decide_eq_decide]
              constructor
              · split
                · omega
                · split <;> omega
              · split
                · omega
                · split <;> omega
            · have : cmpZ (formOf false (pairs10 (padded D p)) (powerOf p)) (formOf true (pairs10 (padded E q)) (powerOf q)) = 1 := by
                simp only [formOf, Bool.false_eq_true, if_false, if_true, cmpZ]
                rw [if_neg (by omega), if_pos (by omega)]
              rw [this]
              exact ⟨rfl, rfl⟩
            · have : cmpZ (formOf true (pairs10 (padded D p)) (powerOf p)) (formOf false (pairs10 (padded E q)) (powerOf q)) = -1 := by
                simp only [formOf, Bool.false_eq_true, if_false, if_true, cmpZ]
                rw [if_pos (by omega)]
              rw [this]
              exact ⟨rfl, rfl⟩
            · rw [g2, f2]
              unfold lessB
              generalize cmpZ D E = c at *
              rw [hn]
              simp only [bne_self_eq_false, Bool.false_eq_true, if_false, if_true, beq_iff_eq, decide_eq_decide]
              constructor
              · split
                · omega
                · split <;> omega
              · split
                · omega
                · split <;> omega
          rw [if_pos h1.1, if_pos h1.2, hA]
          rfl
end Go.Proofs.YtepooaejlofkkaaDoor.Pure

namespace Go.Proofs.YtepooaejlofkkaaDoor.Pure
open Go Go.RowKit Go.Proofs.YtepooaejlofkkaaDoor Go.Proofs.YtepooaejlofkkaaDoor.X Go.Proofs.YtepooaejlofkkaaDoor.ZN Go.Proofs.YtepooaejlofkkaaDoorW.PrintWords Go.Proofs.YtepooaejlofkkaaDoorW.PrintLast Go.Proofs.YtepooaejlofkkaaDoorW.PrintMore
set_option linter.unusedVariables false
set_option linter.unusedSimpArgs false

/-- The decimal digits of a number; none of 0. -/
def digs (u : Nat) : List Int := if h : u = 0 then [] else digs (u / 10) ++ [((u % 10 : Nat) : Int)]
termination_by u
decreasing_by omega
theorem digs_zero : digs 0 = [] := by rw [digs, dif_pos rfl]
theorem digs_pos {u : Nat} (h : u ≠ 0) : digs u = digs (u / 10) ++ [((u % 10 : Nat) : Int)] := by rw [digs, dif_neg h]
theorem digs_digs (u : Nat) : Digs (digs u) := by
  induction u using Nat.strongRecOn with
  | _ u ih =>
    by_cases h : u = 0
    · subst h; rw [digs_zero]; intro x hx; cases hx
    · rw [digs_pos h]
      intro x hx
      rcases List.mem_append.1 hx with hx | hx
      · exact ih (u / 10) (by omega) x hx
      · rw [List.mem_singleton.1 hx]; omega
theorem digs_len (u : Nat) : ∀ m : Nat, u < 10 ^ m → (digs u).length ≤ m := by
  induction u using Nat.strongRecOn with
  | _ u ih =>
    intro m hm
    by_cases h : u = 0
    · subst h; rw [digs_zero]; simp
    · rw [digs_pos h, List.length_append]
      match m, hm with
      | 0, hm => simp at hm; omega
      | m + 1, hm =>
        have := ih (u / 10) (by omega) m (by rw [Nat.pow_succ] at hm; omega)
        simp only [List.length_cons, List.length_nil]; omega
theorem digs_first (u : Nat) (h : u ≠ 0) : 0 < (digs u).length ∧ (digs u).getD 0 0 ≠ 0 := by
  induction u using Nat.strongRecOn with
  | _ u ih =>
    rw [digs_pos h]
    by_cases h1 : u / 10 = 0
    · rw [h1, digs_zero]
      refine ⟨by simp, ?_⟩
      show ((u % 10 : Nat) : Int) ≠ 0
      omega
    · obtain ⟨hl, hf⟩ := ih (u / 10) (by omega) h1
      refine ⟨by rw [List.length_append]; omega, ?_⟩
      rw [List.getD_eq_getElem?_getD, List.getElem?_append_left hl, ← List.getD_eq_getElem?_getD]
      exact hf
/-- The number of digits. -/
def valD (l : List Int) : Int := l.foldl (fun a d => 10 * a + d) 0
theorem valD_snoc (l : List Int) (d : Int) : valD (l ++ [d]) = 10 * valD l + d := by unfold valD; rw [List.foldl_append]; rfl
theorem valD_digs (u : Nat) : valD (digs u) = (u : Int) := by
  induction u using Nat.strongRecOn with
  | _ u ih =>
    by_cases h : u = 0
    · subst h; rw [digs_zero]; rfl
    · rw [digs_pos h, valD_snoc, ih (u / 10) (by omega)]; omega
theorem digs_ten (u : Nat) (h : u ≠ 0) : digs (10 * u) = digs u ++ [0] := by
  rw [digs_pos (by omega), show 10 * u / 10 = u from by omega, show 10 * u % 10 = 0 from by omega]; rfl

/-- Without the noughts at the end. -/
def stripT (l : List Int) : List Int := (l.reverse.dropWhile (· == 0)).reverse
theorem stripT_snoc (l : List Int) (x : Int) : stripT (l ++ [x]) = if x = 0 then stripT l else l ++ [x] := by
  unfold stripT
  rw [List.reverse_append]
  simp only [List.reverse_cons, List.reverse_nil, List.nil_append, List.singleton_append, List.dropWhile_cons]
  by_cases h : x = 0
  · simp [h]
  · simp [h]
theorem stripT_nil : stripT [] = [] := rfl
theorem stripT_eq (n : Nat) : ∀ l : List Int, l.length = n → ∃ z, l = stripT l ++ List.replicate z 0 := by
  induction n with
  | zero => intro l hl; rw [List.eq_nil_of_length_eq_zero hl]; exact ⟨0, rfl⟩
  | succ n ih =>
    intro l hl
    rcases List.eq_nil_or_concat l with rfl | ⟨m, x, rfl⟩
    · exact ⟨0, rfl⟩
    · rw [List.concat_eq_append] at *
      rw [stripT_snoc]
      by_cases h : x = 0
      · rw [if_pos h]
        obtain ⟨z, hz⟩ := ih m (by simpa using hl)
        refine ⟨z + 1, ?_⟩
        conv => lhs; rw [hz]
        rw [h, List.replicate_succ', List.append_assoc]
      · rw [if_neg h]; exact ⟨0, by simp⟩
theorem stripT_last (n : Nat) : ∀ l : List Int, l.length = n → 0 < (stripT l).length → (stripT l).getD ((stripT l).length - 1) 0 ≠ 0 := by
  induction n with
  | zero => intro l hl h; rw [List.eq_nil_of_length_eq_zero hl] at h; simp [stripT] at h
  | succ n ih =>
    intro l hl
    rcases List.eq_nil_or_concat l with rfl | ⟨m, x, rfl⟩
    · simp at hl
    · rw [List.concat_eq_append] at *
      rw [stripT_snoc]
      by_cases h : x = 0
      · rw [if_pos h]; exact ih m (by simpa using hl)
      · rw [if_neg h]
        intro _
        simpa using h
theorem stripT_self (l : List Int) (h : 0 < l.length → l.getD (l.length - 1) 0 ≠ 0) : stripT l = l := by
  rcases List.eq_nil_or_concat l with rfl | ⟨m, x, rfl⟩
  · rfl
  · rw [List.concat_eq_append] at *
    have := h (by simp)
    rw [stripT_snoc, if_neg (by simpa using this)]

theorem nd_l1 (n : Nat) : ∀ (k : Nat) (l : List Int) (x : Int), l.length = n → n < k → n ≤ 100 → ZN.spec_NumberDigits.l1 k l x = some (stripT l, x) := by
  induction n with
  | zero =>
    intro k l x hl hk hn
    obtain ⟨k, rfl⟩ : ∃ m, k = m + 1 := ⟨k - 1, by omega⟩
    rw [ZN.spec_NumberDigits.l1, if_neg (by omega), List.eq_nil_of_length_eq_zero hl]
    rfl
  | succ n ih =>
    intro k l x hl hk hn
    obtain ⟨k, rfl⟩ : ∃ m, k = m + 1 := ⟨k - 1, by omega⟩
    rcases List.eq_nil_or_concat l with rfl | ⟨m, y, rfl⟩
    · simp at hl
    · rw [List.concat_eq_append] at *
      have hm : m.length = n := by simpa using hl
      have e : wrap64 (((m ++ [y]).length : Int) - 1) = (n : Int) := by rw [wrap_id _ (by omega)]; omega
      have e2 : (m ++ [y]).getD n 0 = y := by rw [← hm]; simp
      rw [ZN.spec_NumberDigits.l1, if_pos (by omega), e, if_pos (by omega), if_pos (by omega), rd_nat, e2, stripT_snoc]
      by_cases h : y = 0
      · rw [if_pos h, if_pos h, if_pos (by omega), Int.toNat_natCast, ← hm, List.take_left']
        · exact ih k m x hm (by omega) (by omega)
        · rfl
      · rw [if_neg h, if_neg h]
theorem nd_l0 (u : Nat) : ∀ (k : Nat) (acc : List Int), u ≤ 18446744073709551615 → (digs u ++ acc).length ≤ 60 → (digs u).length + (digs u ++ acc).length + 5 < k → (digs u).length ≤ 40 →
    ZN.spec_NumberDigits.l0 k (u : Int) acc = some (stripT (digs u ++ acc), ((digs u ++ acc).length : Int) - 1) := by
  induction u using Nat.strongRecOn with
  | _ u ih =>
    intro k acc hu hl hk hd
    obtain ⟨k, rfl⟩ : ∃ m, k = m + 1 := ⟨k - 1, by omega⟩
    rw [ZN.spec_NumberDigits.l0]
    by_cases h : u = 0
    · subst h
      rw [digs_zero] at *
      rw [if_neg (by omega), List.nil_append, wrap_id _ (by simp only [List.nil_append] at hl; omega)]
      simp only [List.nil_append] at hl hk
      exact nd_l1 acc.length k acc _ rfl (by omega) (by omega)
    · have hp := digs_pos h
      simp only [hp, List.length_append, List.length_cons, List.length_nil] at hl hk hd
      have e1 : Int.tmod (u : Int) 10 % 256 = ((u % 10 : Nat) : Int) := by rw [Int.tmod_eq_emod_of_nonneg (by omega)]; omega
      have e2 : Int.tdiv (u : Int) 10 = ((u / 10 : Nat) : Int) := by rw [Int.tdiv_eq_ediv_of_nonneg (by omega)]; omega
      rw [if_pos (by omega), e1, e2, u64_id _ (by omega)]
      simp only [Option.bind_some, List.length_cons, List.length_nil]
      rw [if_pos (by omega), ih (u / 10) (by omega) k _ (by omega) (by simp only [List.length_append, List.length_cons, List.length_nil]; omega) (by simp only [List.length_append, List.length_cons, List.length_nil]; omega) (by omega)]
      rw [hp, List.append_assoc]
theorem nd_f (u : Nat) (hu : u < 10 ^ 18) (k : Nat) (hk : 100 ≤ k) : ZN.spec_NumberDigits.f k (u : Int) = some (stripT (digs u), ((digs u).length : Int) - 1) := by
  unfold ZN.spec_NumberDigits.f
  have hl := digs_len u 18 hu
  have := nd_l0 u k [] (by omega) (by rw [List.append_nil]; omega) (by rw [List.append_nil]; omega) (by omega)
  rw [List.append_nil] at this
  exact this

/-! ### taken apart -/
def val100 (m : Int) (P : List Int) : Int := P.foldl (fun a p => 100 * a + p) m
theorem mant_ok (m d : Int) (h0 : 0 ≤ m) (h1 : m < 1000000000000000) (d0 : 0 ≤ d) (d1 : d ≤ 9) : converters_addDigitToMantissa.f m d = some (m * 10 + d, false) := by
  unfold converters_addDigitToMantissa.f mantF
  rw [if_pos (by omega), if_pos (by omega), if_pos (by omega)]
/-- The byte of a pair. -/
def pb (neg : Bool) (p : Int) : Int := if neg then 101 - p else p + 1
theorem from_l0 (neg : Bool) (ex : Int) (hex : -200 ≤ ex ∧ ex ≤ 200) (P : List Int) (hP : ∀ p ∈ P, 0 ≤ p ∧ p ≤ 99) (hl : P.length ≤ 8) (B : List Int) (hBl : B.length = P.length) (hB : ∀ i, i < P.length → B.getD i 0 = pb neg (P.getD i 0)) (d : Nat) : ∀ (k : Nat) (m x9 : Int) (i : Nat), P.length - i = d → i ≤ P.length → 3 * d < k → 0 ≤ m → m < 100 ^ i → -10 ≤ x9 ∧ x9 ≤ 10 →
    ∃ z, converters_FromNumber.l0 k m neg ex ((2 * i : Nat) : Int) x9 B (B.length : Int) (i : Int) = some (val100 m (P.drop i), neg, 2 * ex - ((2 * P.length : Nat) : Int), z, none) := by
  induction d with
  | zero =>
    intro k m x9 i hd hi hk h0 h1 h9
    obtain ⟨k, rfl⟩ : ∃ m, k = m + 1 := ⟨k - 1, by omega⟩
    rw [converters_FromNumber.l0, if_neg (by omega), List.drop_of_length_le (by omega), wrap_id (ex * 2) (by omega), wrap_id _ (by omega), show ex * 2 - ((2 * i : Nat) : Int) = 2 * ex - ((2 * P.length : Nat) : Int) from by omega]
    exact ⟨_, rfl⟩
  | succ d ih =>
    intro k m x9 i hd hi hk h0 h1 h9
    obtain ⟨k, rfl⟩ : ∃ m, k = m + 3 := ⟨k - 3, by omega⟩
    have c1 : (i : Int) < (B.length : Int) := by omega
    have c2 : 0 ≤ (i : Int) := by omega
    have hdr : P.drop i = P.getD i 0 :: P.drop (i + 1) := by
      rw [List.drop_eq_getElem_cons (by omega), List.getD_eq_getElem?_getD, List.getElem?_eq_getElem (by omega)]; rfl
    have hg : 0 ≤ P.getD i 0 ∧ P.getD i 0 ≤ 99 := hP _ (List.mem_of_mem_drop (i := i) (by rw [hdr]; simp))
    have hrd := hB i (by omega)
    have hm14 : m < 100000000000000 := by
      have : (100 : Int) ^ i ≤ 100 ^ 7 := by
        have := Nat.pow_le_pow_right (show 0 < 100 by omega) (show i ≤ 7 by omega)
        exact_mod_cast this
      have e : (100 : Int) ^ 7 = 100000000000000 := by decide
      omega
    have e5 : wrap64 ((i : Int) + 1) = ((i + 1 : Nat) : Int) := by rw [wrap_id _ (by omega)]; omega
    have key : ∀ x9', -10 ≤ x9' ∧ x9' ≤ 10 → ∃ z, converters_FromNumber.j4 (k + 2) m neg ex ((2 * i : Nat) : Int) x9' (pb neg (P.getD i 0)) B (B.length : Int) (i : Int) = some (val100 m (P.drop i), neg, 2 * ex - ((2 * P.length : Nat) : Int), z, none) := by
      intro x9' h9'
      generalize hp : P.getD i 0 = p at *
      have hpow : 100 * m + p < 100 ^ (i + 1) := by
        rw [Int.pow_succ]
        generalize (100 : Int) ^ i = t at *
        omega
      have H1 := Lib.hid h1
      clear h1
      have step : ∃ z, converters_FromNumber.j5 (k + 1) m neg ex ((2 * i : Nat) : Int) x9' p B (B.length : Int) (i : Int) = some (val100 m (P.drop i), neg, 2 * ex - ((2 * P.length : Nat) : Int), z, none) := by
        simp only [converters_FromNumber.j5]
        have e1 : Int.tdiv p 10 % 256 = p / 10 := by rw [Int.tdiv_eq_ediv_of_nonneg hg.1]; omega
        have e2 : Int.tmod p 10 = p % 10 := Int.tmod_eq_emod_of_nonneg hg.1
        have q1 := mant_ok m (p / 10) h0 (by omega) (by omega) (by omega)
        have q2 := mant_ok (m * 10 + p / 10) (p % 10) (by omega) (by omega) (by omega) (by omega)
        rw [e1, e2, q1]
        simp only [Option.bind_some, Bool.false_eq_true, if_false]
        rw [q2]
        simp only [Option.bind_some, Bool.false_eq_true, if_false]
        rw [wrap_id (((2 * i : Nat) : Int) + 1) (by omega), wrap_id (((2 * i : Nat) : Int) + 1 + 1) (by omega), e5, show ((2 * i : Nat) : Int) + 1 + 1 = ((2 * (i + 1) : Nat) : Int) from by omega, show (m * 10 + p / 10) * 10 + p % 10 = 100 * m + p from by omega]
        obtain ⟨z, hz⟩ := ih k (100 * m + p) x9' (i + 1) (by omega) (by omega) (by omega) (by omega) hpow h9'
        refine ⟨z, ?_⟩
        rw [hz, hdr]
        rfl
      simp only [converters_FromNumber.j4]
      cases neg with
      | true =>
        rw [if_pos rfl, show (100 - (pb true p - 1) % 256) % 256 = p from by unfold pb; simp only [if_true]; omega]
        exact step
      | false =>
        rw [if_neg (by simp), show (pb false p - 1) % 256 = p from by unfold pb; simp only [Bool.false_eq_true, if_false]; omega]
        exact step
    clear h1 hm14 ih
    rw [converters_FromNumber.l0, if_pos c1, if_pos c2, if_pos c1, rd_nat, hrd]
    by_cases hi0 : (i : Int) = 0
    · rw [if_pos hi0]; exact key (-1) (by omega)
    · rw [if_neg hi0]; exact key x9 h9

theorem and_small : ∀ n : Nat, n < 128 → Go.bits .and .u8 (n : Int) 128 = 0 := by decide +kernel
theorem and_great : ∀ n : Nat, n < 128 → Go.bits .and .u8 ((n + 128 : Nat) : Int) 128 = 128 ∧ Go.bits .and .u8 ((n + 128 : Nat) : Int) 127 = (n : Int) := by decide +kernel

theorem form_map (neg : Bool) (P : List Int) (pw : Int) : formOf neg P pw = (if neg then 62 - pw else 193 + pw) :: (P.map (pb neg) ++ if neg then [102] else []) := by
  cases neg
  · simp [formOf, pb]
  · simp [formOf, pb]
theorem taken_f (neg : Bool) (P : List Int) (hP : ∀ p ∈ P, 0 ≤ p ∧ p ≤ 99) (hl : P.length ≤ 8) (pw : Int) (hpw : -62 ≤ pw ∧ pw ≤ 62) (k : Nat) (hk : 60 ≤ k) :
    ∃ z, converters_FromNumber.f k (formOf neg P pw) = some (val100 0 P, neg, 2 * (pw + 1) - ((2 * P.length : Nat) : Int), z, none) := by
  obtain ⟨k, rfl⟩ : ∃ m, k = m + 3 := ⟨k - 3, by omega⟩
  obtain ⟨z, hz⟩ := from_l0 neg (pw + 1) (by omega) P hP hl (P.map (pb neg)) (List.length_map _) (fun i hi => by simp only [List.getD_eq_getElem?_getD, List.getElem?_map, List.getElem?_eq_getElem hi]; rfl) P.length k 0 0 0 (by omega) (by omega) (by omega) (by omega) (by simp) (by omega)
  refine ⟨z, ?_⟩
  rw [List.drop_zero] at hz
  have hz' : converters_FromNumber.j2 (k + 1) 0 neg (pw + 1) (P.map (pb neg)) = some (val100 0 P, neg, 2 * (pw + 1) - ((2 * P.length : Nat) : Int), z, none) := by
    rw [converters_FromNumber.j2]; exact hz
  rw [form_map]
  generalize hB : P.map (pb neg) = B at *
  have hBl : B.length ≤ 8 := by rw [← hB, List.length_map]; exact hl
  unfold converters_FromNumber.f
  cases neg with
  | true =>
    simp only [if_true]
    obtain ⟨n, hn⟩ := Int.eq_ofNat_of_zero_le (show 0 ≤ 62 - pw by omega)
    have e0 : rd ((62 - pw) :: (B ++ [102])) 0 = (n : Int) := by show 62 - pw = _; exact hn
    have hlen : (((62 - pw) :: (B ++ [102])).length : Int) = (B.length : Int) + 2 := by simp only [List.length_cons, List.length_append, List.length_nil]; omega
    rw [if_neg (by omega), if_pos (by omega), e0, if_neg (by omega), if_pos (and_small n (by omega)), and_small n (by omega), xor_small n (by omega), wrap_id (127 - (n : Int)) (by omega), wrap_id (127 - (n : Int) - 64) (by omega), show 127 - (n : Int) - 64 = pw + 1 from by omega]
    show converters_FromNumber.j0 (k + 3) _ 0 true (pw + 1) = _
    rw [converters_FromNumber.j0, if_pos (by omega)]
    simp only [Option.bind_some, if_true]
    rw [hlen, show wrap64 ((B.length : Int) + 2 - 1) = ((B.length + 1 : Nat) : Int) from by rw [wrap_id _ (by omega)]; omega, if_pos (by omega), if_pos (by omega), rd_nat]
    have e1 : ((62 - pw) :: (B ++ [102])).getD (B.length + 1) 0 = 102 := by simp
    rw [e1, show ((102 : Int) == 102) = true from rfl, converters_FromNumber.j1, if_pos rfl, hlen, show wrap64 ((B.length : Int) + 2 - 1) = ((B.length + 1 : Nat) : Int) from by rw [wrap_id _ (by omega)]; omega, if_pos (by omega), if_pos (by omega), Int.toNat_natCast]
    have e2 : (((62 - pw) :: (B ++ [102])).take (B.length + 1)).drop 1 = B := by simp
    rw [e2]
    exact hz'
  | false =>
    simp only [Bool.false_eq_true, if_false, List.append_nil]
    obtain ⟨n, hn⟩ := Int.eq_ofNat_of_zero_le (show 0 ≤ 193 + pw - 128 by omega)
    have e0 : rd ((193 + pw) :: B) 0 = ((n + 128 : Nat) : Int) := by show 193 + pw = _; omega
    have hlen : (((193 + pw) :: B).length : Int) = (B.length : Int) + 1 := by simp
    have ha := and_great n (by omega)
    rw [if_neg (by omega), if_pos (by omega), e0, if_neg (by omega), ha.1, ha.2, if_neg (by omega), wrap_id (n : Int) (by omega), wrap_id ((n : Int) - 64) (by omega), show (n : Int) - 64 = pw + 1 from by omega]
    show converters_FromNumber.j0 (k + 3) _ 0 false (pw + 1) = _
    rw [converters_FromNumber.j0, if_pos (by omega)]
    simp only [Option.bind_some, Bool.false_eq_true, if_false]
    rw [converters_FromNumber.j1, if_neg (by simp)]
    exact hz'

theorem val100_pairs : ∀ (l : List Int) (a : Int), l.length % 2 = 0 → val100 a (pairs10 l) = l.foldl (fun a d => 10 * a + d) a
  | [], a, _ => rfl
  | [x], a, h => by simp at h
  | x :: y :: t, a, h => by
    have := val100_pairs t (100 * a + (10 * x + y)) (by simp only [List.length_cons] at h; omega)
    show val100 (100 * a + (10 * x + y)) (pairs10 t) = t.foldl (fun a d => 10 * a + d) (10 * (10 * a + x) + y)
    rw [this]
    congr 1
    omega
theorem pad_len (d : List Int) : (pad d).length % 2 = 0 ∧ (pad d).length = d.length + d.length % 2 := by
  unfold pad
  split
  · simp only [List.length_append, List.length_cons, List.length_nil]; omega
  · omega
/-- A number whose digits end in noughts, told by those ahead of them. -/
theorem digs_unique (u : Nat) : ∀ (D : List Int) (z : Nat), digs u = D ++ List.replicate z 0 → ∃ v : Nat, digs v = D ∧ u = v * 10 ^ z := by
  induction u using Nat.strongRecOn with
  | _ u ih =>
    intro D z h
    match z with
    | 0 => exact ⟨u, by simpa using h, by simp⟩
    | z + 1 =>
      by_cases hu : u = 0
      · subst hu
        rw [digs_zero] at h
        have := congrArg List.length h
        simp at this
      · rw [digs_pos hu, List.replicate_succ', ← List.append_assoc] at h
        obtain ⟨h1, h2⟩ := List.append_inj' h rfl
        have h3 : ((u % 10 : Nat) : Int) = 0 := by simpa using h2
        obtain ⟨v, hv, he⟩ := ih (u / 10) (by omega) D z h1
        refine ⟨v, hv, ?_⟩
        rw [Nat.pow_succ, ← Nat.mul_assoc, ← he]
        omega

theorem FnNumberMoney (a0 : Int) (w0 : (Lit.int .i64 a0).wf = true) : ∃ k, laws_FnNumberMoney.f k a0 = some true := by
  have hr : -9223372036854775808 ≤ a0 ∧ a0 ≤ 9223372036854775807 := rng w0
  refine ⟨200, ?_⟩
  have hn : -1000000000000000 < Int.tmod a0 1000000000000000 ∧ Int.tmod a0 1000000000000000 < 1000000000000000 := by
    by_cases h0 : 0 ≤ a0
    · rw [Int.tmod_eq_emod_of_nonneg h0]; omega
    · have e : a0 = -(-a0) := by omega
      rw [e, Int.neg_tmod, Int.tmod_eq_emod_of_nonneg (by omega)]; omega
  unfold laws_FnNumberMoney.f
  generalize Int.tmod a0 1000000000000000 = n at *
  obtain ⟨u, hu⟩ : ∃ u : Nat, u = n.natAbs := ⟨_, rfl⟩
  have hsz : laws_numberSize.f n = some (u : Int) := by
    unfold laws_numberSize.f
    split
    · rw [IntKind.wrap_u64, IntKind.wrap_u64]; congr 1; omega
    · rw [IntKind.wrap_u64]; congr 1; omega
  have hu15 : u < 10 ^ 15 := by omega
  have hA := awake_k 200 (by omega)
  rw [hsz]
  simp only [Option.bind_some]
  rw [nd_f u (Nat.lt_of_lt_of_le hu15 (Nat.pow_le_pow_right (by omega) (by omega))) 200 (by omega)]
  simp only [Option.bind_some]
  by_cases h0 : n = 0
  · rw [if_pos h0, hA]; rfl
  · rw [if_neg h0]
    have hu0 : u ≠ 0 := by omega
    have hlu := digs_len u 15 hu15
    obtain ⟨z, hz⟩ := stripT_eq _ (digs u) rfl
    have hlast := stripT_last _ (digs u) rfl
    obtain ⟨hfl, hff⟩ := digs_first u hu0
    have hdg : Digs (stripT (digs u)) := fun x hx => digs_digs u x (by rw [hz]; exact List.mem_append_left _ hx)
    generalize hD : stripT (digs u) = D at *
    have hLen : (digs u).length = D.length + z := by rw [hz]; simp
    obtain ⟨v, hv, huv⟩ := digs_unique u D z hz
    have hv0 : v ≠ 0 := by rintro rfl; apply hu0; rw [huv]; simp
    have hDl : 0 < D.length := by rw [← hv]; exact (digs_first v hv0).1
    have hvle : v ≤ u := by rw [huv]; exact Nat.le_mul_of_pos_right v (Nat.pow_pos (by omega))
    obtain ⟨E, hE⟩ : ∃ E : Int, E = ((digs u).length : Int) - 1 - 2 := ⟨_, rfl⟩
    have hEr : -100 ≤ E ∧ E ≤ 100 := by omega
    rw [letters_f D hdg (by omega) 200 (by omega)]
    simp only [Option.bind_some]
    rw [wrap_id (((digs u).length : Int) - 1 - 2) (by omega), ← hE, made_f D (by omega) _ E hEr]
    simp only [Option.bind_some]
    rw [toNum_lets D hdg (by omega) hDl _ E hEr]
    have hpw := power_rng E hEr
    have hP := pairs10_rng _ (padded_digs hdg E)
    rw [power_floor] at hpw
    rw [power_floor]
    have hpad := padded_pad D E
    rw [hpad] at hP
    rw [hpad]
    obtain ⟨d, hd⟩ : ∃ d, d = (if E % 2 = 0 then 0 :: D else D) := ⟨_, rfl⟩
    rw [← hd] at hP
    rw [← hd]
    have hdl : d.length ≤ 16 := by
      rw [hd]
      split
      · simp only [List.length_cons]; omega
      · omega
    have hpl := pad_len d
    have hPl := pairs10_length (pad d)
    obtain ⟨zz, hfrom⟩ := taken_f (decide (n < 0)) (pairs10 (pad d)) hP (by omega) (E / 2) hpw 200 (by omega)
    have hT : impl_NumberTaken.f 200 (formOf (decide (n < 0)) (pairs10 (pad d)) (E / 2)) = some (val100 0 (pairs10 (pad d)), decide (n < 0), 2 * (E / 2 + 1) - ((2 * (pairs10 (pad d)).length : Nat) : Int), zz, true) := by
      unfold impl_NumberTaken.f
      rw [clone_f _ (by rw [form_map]; simp only [List.length_cons, List.length_append, List.length_map]; split <;> simp <;> omega)]
      simp only [Option.bind_some]
      rw [hfrom]
      simp
    rw [hT]
    simp only [Option.bind_some]
    -- the mantissa
    have hval : val100 0 (pairs10 (pad d)) = ((v * 10 ^ (d.length % 2) : Nat) : Int) := by
      rw [val100_pairs _ _ hpl.1]
      show valD (pad d) = _
      have hv1 : valD d = (v : Int) := by
        rw [hd, ← valD_digs v, hv]
        split
        · show valD (0 :: D) = valD D
          unfold valD
          rfl
        · rfl
      unfold pad
      split
      · rename_i ho
        rw [valD_snoc, hv1, ho]
        omega
      · rename_i ho
        rw [hv1, show d.length % 2 = 0 from by omega]
        simp
    rw [hval]
    have hdm : digs (v * 10 ^ (d.length % 2)) = D ++ List.replicate (d.length % 2) 0 := by
      rcases Nat.mod_two_eq_zero_or_one d.length with ho | ho
      · rw [ho]; simp [hv]
      · rw [ho, show v * 10 ^ 1 = 10 * v from by omega, digs_ten v hv0, hv]; rfl
    have hmu : v * 10 ^ (d.length % 2) < 10 ^ 18 := by
      rcases Nat.mod_two_eq_zero_or_one d.length with ho | ho <;> rw [ho] <;> omega
    rw [nd_f _ hmu 200 (by omega), hdm]
    simp only [Option.bind_some]
    have hst : stripT (D ++ List.replicate (d.length % 2) 0) = D := by
      rcases Nat.mod_two_eq_zero_or_one d.length with ho | ho
      · rw [ho]; simp only [List.replicate_zero, List.append_nil]; exact stripT_self D hlast
      · rw [ho]
        show stripT (D ++ [0]) = D
        rw [stripT_snoc, if_pos rfl]; exact stripT_self D hlast
    rw [hst]
    simp only [if_true, beq_self_eq_true]
    have hB : bytes_Equal.f D D = some true := by unfold bytes_Equal.f; rw [beq_self_eq_true]
    rw [hB]
    simp only [Option.bind_some, if_true]
    rw [wrap_id _ (by simp only [List.length_append, List.length_replicate]; omega), if_pos ?_, hA]
    · rfl
    · simp only [List.length_append, List.length_replicate]
      have : d.length = D.length + (if E % 2 = 0 then 1 else 0) := by rw [hd]; split <;> simp
      rw [hPl, hpl.2]
      split at this <;> omega
end Go.Proofs.YtepooaejlofkkaaDoor.Pure

namespace Go.Proofs.YtepooaejlofkkaaDoor.Pure
open Go Go.RowKit Go.Proofs.YtepooaejlofkkaaDoor Go.Proofs.YtepooaejlofkkaaDoor.X Go.Proofs.YtepooaejlofkkaaDoorW.PrintWords Go.Proofs.YtepooaejlofkkaaDoorW.PrintLast
set_option linter.unusedVariables false
set_option linter.unusedSimpArgs false
theorem cmpI_cmpZ : ∀ l m : List Int, cmpI l m = cmpZ l m
  | [], [] => rfl
  | [], _ :: _ => rfl
  | _ :: _, [] => rfl
  | a :: xs, b :: ys => by simp only [cmpI, cmpZ, cmpI_cmpZ xs ys]
/-- Digits without noughts at both ends. -/
structure NormI (D : List Int) : Prop where
  digs : Digs D
  first : 0 < D.length → D.getD 0 0 ≠ 0
  last : 0 < D.length → D.getD (D.length - 1) 0 ≠ 0
theorem first_smallI (D : List Int) (h : NormI D) (h0 : 0 < D.length) : ∃ p r, pairs10 (pad (0 :: D)) = p :: r ∧ p ≤ 9 := by
  match D, h0, h with
  | a :: t, _, h =>
    have := h.digs a (by simp)
    exact ⟨_, _, pairs_pad_two 0 a t, by omega⟩
theorem first_greatI (D : List Int) (h : NormI D) (h0 : 0 < D.length) : ∃ p r, pairs10 (pad D) = p :: r ∧ 10 ≤ p := by
  have hf := h.first h0
  match D, h0, h, hf with
  | [a], _, h, hf =>
    have := h.digs a (by simp)
    have hf' : a ≠ 0 := hf
    exact ⟨_, _, pairs_pad_one a, by omega⟩
  | a :: b :: t, _, h, hf =>
    have := h.digs a (by simp)
    have := h.digs b (by simp)
    have hf' : a ≠ 0 := hf
    exact ⟨_, _, pairs_pad_two a b t, by omega⟩

theorem cmp_formsI (D E : List Int) (hD : NormI D) (hE : NormI E) (d0 : 0 < D.length) (e0 : 0 < E.length) (p q : Int) :
    cmpZ (powerOf p :: pairs10 (padded D p)) (powerOf q :: pairs10 (padded E q)) = if p < q then -1 else if q < p then 1 else cmpZ D E := by
  have nD := nz_of D hD.last
  have nE := nz_of E hE.last
  rw [power_floor, power_floor, padded_pad, padded_pad]
  simp only [cmpZ]
  by_cases h1 : p < q
  · rw [if_pos h1]
    by_cases h2 : p / 2 < q / 2
    · rw [if_pos h2]
    · rw [if_neg h2, if_neg (by omega), if_pos (show p % 2 = 0 by omega), if_neg (show ¬ q % 2 = 0 by omega)]
      obtain ⟨a, r, e1, ha⟩ := first_smallI D hD d0
      obtain ⟨b, s, e2, hb⟩ := first_greatI E hE e0
      rw [e1, e2]
      simp only [cmpZ]
      rw [if_pos (by omega)]
  · rw [if_neg h1]
    by_cases h3 : q < p
    · rw [if_pos h3, if_neg (by omega)]
      by_cases h2 : q / 2 < p / 2
      · rw [if_pos h2]
      · rw [if_neg h2, if_neg (show ¬ p % 2 = 0 by omega), if_pos (show q % 2 = 0 by omega)]
        obtain ⟨a, r, e1, ha⟩ := first_greatI D hD d0
        obtain ⟨b, s, e2, hb⟩ := first_smallI E hE e0
        rw [e1, e2]
        simp only [cmpZ]
        rw [if_neg (by omega), if_pos (by omega)]
    · obtain rfl : p = q := by omega
      rw [if_neg h3, if_neg (by omega), if_neg (by omega)]
      by_cases h4 : p % 2 = 0
      · rw [if_pos h4, if_pos h4, cmp_pairs _ _ (digs_cons hD.digs) (digs_cons hE.digs) (nD.cons d0) (nE.cons e0)]
        simp only [cmpZ]
        rw [if_neg (by omega), if_neg (by omega)]
      · rw [if_neg h4, if_neg h4, cmp_pairs _ _ hD.digs hE.digs nD nE]

theorem toNum_letsI (D : List Int) (hg : Digs D) (hl : D.length ≤ 19) (h0 : 0 < D.length) (neg : Bool) (e : Int) (he : -100 ≤ e ∧ e ≤ 100) :
    toNum (lets D) neg e = formOf neg (pairs10 (padded D e)) (powerOf e) := by
  have hev : evened (lets D) e = lets (if Int.tmod e 2 = 0 then 0 :: D else D) := by
    unfold evened
    split
    · rfl
    · rfl
  have hd : Digs (if Int.tmod e 2 = 0 then 0 :: D else D) := by split; exact digs_cons hg; exact hg
  have hdl : (if Int.tmod e 2 = 0 then 0 :: D else D).length ≤ 20 := by
    split
    · simp only [List.length_cons]; omega
    · omega
  unfold toNum
  rw [if_neg (by rw [lets_length]; omega), hev, pairs_lets neg _ hd, head_eq neg e he, lets_length]
  show _ = formOf neg (pairs10 (if (if Int.tmod e 2 = 0 then 0 :: D else D).length % 2 = 1 then (if Int.tmod e 2 = 0 then 0 :: D else D) ++ [0] else (if Int.tmod e 2 = 0 then 0 :: D else D))) (powerOf e)
  generalize (if Int.tmod e 2 = 0 then 0 :: D else D) = d at *
  unfold formOf
  cases neg
  · simp
  · simp; omega


/-- The digits' letters. -/
theorem decD (u : Nat) (h : u ≠ 0) : (Lib.decDigits u).map (fun b => (b.toNat : Int)) = lets (digs u) := by
  induction u using Nat.strongRecOn with
  | _ u ih =>
    rw [Lib.decDigits]
    split
    · rename_i h1
      rw [digs_pos h, show u / 10 = 0 from by omega, digs_zero]
      simp only [lets, List.map_cons, List.map_nil, List.nil_append, UInt8.toNat_ofNat']
      congr 1
      omega
    · rename_i h1
      rw [List.map_append, ih (u / 10) (by omega) (by omega), digs_pos h]
      unfold lets
      rw [List.map_append]
      congr 1
      simp only [List.map_cons, List.map_nil, UInt8.toNat_ofNat']
      congr 1
      omega
theorem dg_lets (v : Int) (h : v ≠ 0) : dg v = lets (digs v.natAbs) := decD v.natAbs (by omega)
theorem trimZ_snoc (l : List Int) (x : Int) : trimZ (l ++ [x]) = if x = 48 then trimZ l else l ++ [x] := by
  unfold trimZ tzc
  rw [List.reverse_append]
  simp only [List.reverse_cons, List.reverse_nil, List.nil_append, List.singleton_append, List.takeWhile_cons]
  have hle := (List.takeWhile_sublist (fun x : Int => x == 48) (l := l.reverse)).length_le
  rw [List.length_reverse] at hle
  by_cases h : x = 48
  · have hb : (x == 48) = true := by rw [beq_iff_eq]; exact h
    rw [if_pos h, hb]
    simp only [if_true, List.length_cons, List.length_append, List.length_nil, Nat.zero_add, Nat.add_sub_add_right]
    rw [List.take_append_of_le_length (by omega)]
  · have hb : (x == 48) = false := by rw [beq_eq_false_iff_ne]; exact h
    rw [if_neg h, hb]
    simp
    exact List.take_of_length_le (by simp)
theorem trimZ_lets (n : Nat) : ∀ l : List Int, l.length = n → Digs l → trimZ (lets l) = lets (stripT l) := by
  induction n with
  | zero => intro l hl _; rw [List.eq_nil_of_length_eq_zero hl]; rfl
  | succ n ih =>
    intro l hl hg
    rcases List.eq_nil_or_concat l with rfl | ⟨m, x, rfl⟩
    · rfl
    · rw [List.concat_eq_append] at *
      have e : lets (m ++ [x]) = lets m ++ [48 + x] := by unfold lets; rw [List.map_append]; rfl
      rw [stripT_snoc, e, trimZ_snoc]
      have hx := hg x (by simp)
      by_cases h : x = 0
      · rw [if_pos h, if_pos (by omega)]
        exact ih m (by simpa using hl) (fun y hy => hg y (by simp [hy]))
      · rw [if_neg h, if_neg (by omega), e]
/-- What digits are worth, if the first one stands at the place n - 1. -/
def valN : Nat → List Int → Int
  | _, [] => 0
  | 0, _ :: _ => 0
  | n + 1, a :: t => a * 10 ^ n + valN n t
theorem p10 (n : Nat) : (0 : Int) < 10 ^ n := Int.pow_pos (by omega)
theorem digs_tail {a : Int} {t : List Int} (h : Digs (a :: t)) : (0 ≤ a ∧ a ≤ 9) ∧ Digs t := ⟨h a (by simp), fun x hx => h x (by simp [hx])⟩
theorem valN_rng : ∀ (n : Nat) (l : List Int), Digs l → 0 ≤ valN n l ∧ valN n l < 10 ^ n
  | n, [], _ => by cases n <;> exact ⟨Int.le_refl 0, p10 _⟩
  | 0, _ :: _, _ => ⟨Int.le_refl 0, by simp [valN]⟩
  | n + 1, a :: t, h => by
    obtain ⟨ha, ht⟩ := digs_tail h
    have ih := valN_rng n t ht
    have hp := p10 n
    simp only [valN]
    rw [Int.pow_succ]
    generalize (10 : Int) ^ n = p at *
    have h1 : 0 ≤ a * p := Int.mul_nonneg ha.1 (by omega)
    have h2 : a * p ≤ 9 * p := Int.mul_le_mul_of_nonneg_right ha.2 (by omega)
    omega
theorem valN_pos : ∀ (l : List Int) (n : Nat), Digs l → NZ l → 0 < l.length → l.length ≤ n → 0 < valN n l
  | [], _, _, _, h, _ => absurd h (by simp)
  | _ :: _, 0, _, _, _, h => absurd h (by simp)
  | [a], n + 1, hg, hz, _, _ => by
    obtain ⟨ha, _⟩ := digs_tail hg
    have hz' : a ≠ 0 := hz
    simp only [valN]
    have := Int.mul_pos (show 0 < a by omega) (p10 n)
    omega
  | a :: b :: t, n + 1, hg, hz, _, hl => by
    obtain ⟨ha, ht⟩ := digs_tail hg
    have ih := valN_pos (b :: t) n ht hz (by simp) (by simpa using hl)
    have := Int.mul_nonneg ha.1 (Int.le_of_lt (p10 n))
    rw [show valN (n + 1) (a :: b :: t) = a * 10 ^ n + valN n (b :: t) from rfl]
    omega
theorem cmp_val : ∀ (n : Nat) (l m : List Int), Digs l → Digs m → NZ l → NZ m → l.length ≤ n → m.length ≤ n → (cmpZ l m < 0 ↔ valN n l < valN n m) ∧ (0 < cmpZ l m ↔ valN n m < valN n l)
  | n, [], [], _, _, _, _, _, _ => by simp [cmpZ, valN]
  | n, [], b :: t, _, hm, _, zm, _, lm => by
    have := valN_pos (b :: t) n hm zm (by simp) lm
    rw [show valN n [] = 0 by cases n <;> rfl, show cmpZ [] (b :: t) = -1 from rfl]
    omega
  | n, a :: s, [], hl, _, zl, _, ll, _ => by
    have := valN_pos (a :: s) n hl zl (by simp) ll
    rw [show valN n [] = 0 by cases n <;> rfl, show cmpZ (a :: s) [] = 1 from rfl]
    omega
  | 0, _ :: _, _ :: _, _, _, _, _, h, _ => absurd h (by simp)
  | n + 1, a :: s, b :: t, hl, hm, zl, zm, ll, lm => by
    obtain ⟨ha, hs⟩ := digs_tail hl
    obtain ⟨hb, ht⟩ := digs_tail hm
    have ih := cmp_val n s t hs ht zl.tail zm.tail (by simpa using ll) (by simpa using lm)
    have r1 := valN_rng n s hs
    have r2 := valN_rng n t ht
    simp only [valN, cmpZ]
    generalize (10 : Int) ^ n = p at *
    rcases Int.lt_trichotomy a b with h | h | h
    · have : (a + 1) * p ≤ b * p := Int.mul_le_mul_of_nonneg_right (by omega) (by omega)
      rw [Int.add_mul] at this
      rw [if_pos h]
      omega
    · subst h
      rw [if_neg (by omega), if_neg (by omega)]
      omega
    · have : (b + 1) * p ≤ a * p := Int.mul_le_mul_of_nonneg_right (by omega) (by omega)
      rw [Int.add_mul] at this
      rw [if_neg (by omega), if_pos h]
      omega
theorem valN_noughts : ∀ (z n : Nat), valN n (List.replicate z 0) = 0
  | 0, n => by cases n <;> rfl
  | z + 1, 0 => rfl
  | z + 1, n + 1 => by rw [List.replicate_succ, valN, valN_noughts z n]; omega
theorem valN_strip : ∀ (l : List Int) (z n : Nat), valN n (l ++ List.replicate z 0) = valN n l
  | [], z, n => by rw [List.nil_append, valN_noughts]; cases n <;> rfl
  | a :: t, z, 0 => rfl
  | a :: t, z, n + 1 => by rw [List.cons_append, valN, valN, valN_strip t z n]
theorem valN_snoc : ∀ (l : List Int) (d : Int), valN (l.length + 1) (l ++ [d]) = 10 * valN l.length l + d
  | [], d => by simp [valN]
  | a :: t, d => by
    have ih := valN_snoc t d
    rw [List.cons_append, List.length_cons, valN, valN, ih, Int.pow_succ]
    generalize (10 : Int) ^ t.length = p
    rw [show a * (p * 10) = 10 * (a * p) from by rw [← Int.mul_assoc, Int.mul_comm]]
    omega
theorem valN_digs (u : Nat) : valN (digs u).length (digs u) = (u : Int) := by
  induction u using Nat.strongRecOn with
  | _ u ih =>
    by_cases h : u = 0
    · subst h; rw [digs_zero]; rfl
    · rw [digs_pos h, List.length_append]
      show valN ((digs (u / 10)).length + 1) _ = _
      rw [valN_snoc, ih (u / 10) (by omega)]
      omega
theorem digs_shorter (u v : Nat) (h : (digs u).length < (digs v).length) : u < v := by
  have h1 := (valN_rng (digs u).length (digs u) (digs_digs u)).2
  rw [valN_digs] at h1
  have hv : v ≠ 0 := fun e => by rw [e, digs_zero] at h; simp at h
  obtain ⟨hp, hf⟩ := digs_first v hv
  have h2 := valN_digs v
  match hd : digs v, hp, hf with
  | a :: t, _, hf =>
    rw [hd] at h h2
    have hg := digs_tail (hd ▸ digs_digs v)
    have hf' : a ≠ 0 := hf
    have h3 := (valN_rng t.length t hg.2).1
    have h4 : (digs u).length ≤ t.length := by simp only [List.length_cons] at h; omega
    have h5 : (10 : Int) ^ (digs u).length ≤ 10 ^ t.length := by
      obtain ⟨k, hk⟩ : ∃ k, t.length = (digs u).length + k := ⟨t.length - (digs u).length, by omega⟩
      rw [hk, Int.pow_add]
      have := Int.mul_le_mul_of_nonneg_left (show (1 : Int) ≤ 10 ^ k from by have := p10 k; omega) (Int.le_of_lt (p10 (digs u).length))
      omega
    have h6 : 1 * (10 : Int) ^ t.length ≤ a * 10 ^ t.length := Int.mul_le_mul_of_nonneg_right (by omega) (Int.le_of_lt (p10 _))
    rw [List.length_cons, valN] at h2
    omega
theorem strip_norm (u : Nat) (h : u ≠ 0) : NormI (stripT (digs u)) ∧ 0 < (stripT (digs u)).length ∧ (stripT (digs u)).length ≤ (digs u).length ∧ ∀ n, valN n (stripT (digs u)) = valN n (digs u) := by
  obtain ⟨z, hz⟩ := stripT_eq _ (digs u) rfl
  have hv := valN_digs u
  obtain ⟨hp, hf⟩ := digs_first u h
  have hpos : 0 < (stripT (digs u)).length := by
    rcases Nat.eq_zero_or_pos (stripT (digs u)).length with h0 | h0
    · rw [hz, List.eq_nil_of_length_eq_zero h0, List.nil_append, valN_noughts] at hv
      omega
    · exact h0
  have hle : (stripT (digs u)).length ≤ (digs u).length := by
    have := congrArg List.length hz
    rw [List.length_append] at this
    omega
  refine ⟨⟨fun x hx => digs_digs u x (by rw [hz]; exact List.mem_append_left _ hx), fun _ => ?_, fun h' => stripT_last _ _ rfl h'⟩, hpos, hle, fun n => ?_⟩
  · have : (digs u).getD 0 0 = (stripT (digs u)).getD 0 0 := by
      conv => lhs; rw [hz]
      rw [List.getD_eq_getElem?_getD, List.getElem?_append_left hpos, ← List.getD_eq_getElem?_getD]
    rw [← this]
    exact hf
  · conv => rhs; rw [hz]
    rw [valN_strip]
/-- The exponent of an integer's form. -/
def expo (v : Int) : Int := ((digs v.natAbs).length : Int) - 1
theorem digs19 (v : Int) (h0 : -9223372036854775808 ≤ v) (h1 : v ≤ 9223372036854775807) : (digs v.natAbs).length ≤ 19 := digs_len _ 19 (by omega)
theorem enc_form (v : Int) (h0 : -9223372036854775808 ≤ v) (h1 : v ≤ 9223372036854775807) (hv : v ≠ 0) :
    EncRes v = formOf (decide (v < 0)) (pairs10 (padded (stripT (digs v.natAbs)) (expo v))) (powerOf (expo v)) := by
  obtain ⟨hN, hp, hle, _⟩ := strip_norm v.natAbs (by omega)
  have h19 := digs19 v h0 h1
  unfold EncRes
  rw [dg_lets v hv, trimZ_lets _ _ rfl (digs_digs _), lets_length]
  have := toNum_letsI (stripT (digs v.natAbs)) hN.digs (by omega) hp (decide (v < 0)) (expo v) (by unfold expo; omega)
  rw [← this]
  rfl
theorem enc_zero : EncRes 0 = [128] := by decide +kernel
theorem expo_rng (v : Int) (h0 : -9223372036854775808 ≤ v) (h1 : v ≤ 9223372036854775807) (hv : v ≠ 0) : 0 ≤ expo v ∧ expo v ≤ 18 := by
  have := (digs_first v.natAbs (by omega)).1
  have := digs19 v h0 h1
  unfold expo
  omega
theorem enc_byt (v : Int) (h0 : -9223372036854775808 ≤ v) (h1 : v ≤ 9223372036854775807) : Byt (EncRes v) ∧ (EncRes v).length ≤ 100 := by
  by_cases hv : v = 0
  · subst hv; rw [enc_zero]; exact ⟨by decide, by decide⟩
  · obtain ⟨hN, hp, hle, _⟩ := strip_norm v.natAbs (by omega)
    have hr := expo_rng v h0 h1 hv
    have h19 := digs19 v h0 h1
    rw [enc_form v h0 h1 hv]
    refine ⟨form_byt _ _ _ (pairs10_rng _ (padded_digs hN.digs _)) (power_rng _ (by omega)), ?_⟩
    have hpl : (pairs10 (padded (stripT (digs v.natAbs)) (expo v))).length ≤ 20 := by
      rw [pairs10_length, padded_pad, (pad_len _).2]
      split
      · simp only [List.length_cons]; omega
      · omega
    unfold formOf
    split <;> simp <;> omega
/-- The order of two sizes. -/
theorem size_order (u v : Nat) (hu : u ≠ 0) (hv : v ≠ 0) (c : Int)
    (hc : c = if ((digs u).length : Int) - 1 < ((digs v).length : Int) - 1 then -1 else if ((digs v).length : Int) - 1 < ((digs u).length : Int) - 1 then 1 else cmpZ (stripT (digs u)) (stripT (digs v))) :
    (c < 0 ↔ u < v) ∧ (0 < c ↔ v < u) := by
  subst hc
  rcases Nat.lt_trichotomy (digs u).length (digs v).length with h | h | h
  · have := digs_shorter u v h
    rw [if_pos (by omega)]
    omega
  · obtain ⟨a1, a2, a3, a4⟩ := strip_norm u hu
    obtain ⟨b1, b2, b3, b4⟩ := strip_norm v hv
    rw [if_neg (by omega), if_neg (by omega)]
    have := cmp_val (digs u).length _ _ a1.digs b1.digs (nz_of _ a1.last) (nz_of _ b1.last) a3 (by omega)
    rw [a4, b4, valN_digs] at this
    rw [h, valN_digs] at this
    omega
  · have := digs_shorter v u h
    rw [if_neg (by omega), if_pos (by omega)]
    omega
theorem enc_order (x y : Int) (x0 : -9223372036854775808 ≤ x) (x1 : x ≤ 9223372036854775807) (y0 : -9223372036854775808 ≤ y) (y1 : y ≤ 9223372036854775807) :
    (cmpZ (EncRes x) (EncRes y) < 0 ↔ x < y) ∧ (0 < cmpZ (EncRes x) (EncRes y) ↔ y < x) := by
  have hpw : ∀ v : Int, -9223372036854775808 ≤ v → v ≤ 9223372036854775807 → v ≠ 0 → 0 ≤ powerOf (expo v) ∧ powerOf (expo v) ≤ 62 := fun v a b c => by
    have := expo_rng v a b c
    rw [power_floor]
    omega
  by_cases hx : x = 0
  · subst hx
    by_cases hy : y = 0
    · subst hy; rw [enc_zero]; decide
    · have := hpw y y0 y1 hy
      rw [enc_zero, enc_form y y0 y1 hy]
      unfold formOf
      by_cases hn : y < 0
      · rw [if_pos (by simpa using hn)]
        simp only [cmpZ]
        rw [if_neg (by omega), if_pos (by omega)]
        omega
      · rw [if_neg (by simpa using hn)]
        simp only [cmpZ]
        rw [if_pos (by omega)]
        omega
  · have hxp := hpw x x0 x1 hx
    by_cases hy : y = 0
    · subst hy
      rw [enc_zero, enc_form x x0 x1 hx]
      unfold formOf
      by_cases hn : x < 0
      · rw [if_pos (by simpa using hn)]
        simp only [cmpZ]
        rw [if_pos (by omega)]
        omega
      · rw [if_neg (by simpa using hn)]
        simp only [cmpZ]
        rw [if_neg (by omega), if_pos (by omega)]
        omega
    · have hyp := hpw y y0 y1 hy
      obtain ⟨a1, a2, a3, a4⟩ := strip_norm x.natAbs (by omega)
      obtain ⟨b1, b2, b3, b4⟩ := strip_norm y.natAbs (by omega)
      have hP := pairs10_rng _ (padded_digs a1.digs (expo x))
      have hQ := pairs10_rng _ (padded_digs b1.digs (expo y))
      rw [enc_form x x0 x1 hx, enc_form y y0 y1 hy]
      by_cases nx : x < 0 <;> by_cases ny : y < 0
      · rw [show decide (x < 0) = true from by simpa using nx, show decide (y < 0) = true from by simpa using ny, form_neg _ _ _ _ hP hQ, cmp_formsI _ _ b1 a1 b2 a2]
        have := size_order y.natAbs x.natAbs (by omega) (by omega) _ rfl
        unfold expo
        omega
      · rw [show decide (x < 0) = true from by simpa using nx, show decide (y < 0) = false from by simpa using ny]
        simp only [formOf, if_true, Bool.false_eq_true, if_false, cmpZ]
        rw [if_pos (by omega)]
        omega
      · rw [show decide (x < 0) = false from by simpa using nx, show decide (y < 0) = true from by simpa using ny]
        simp only [formOf, if_true, Bool.false_eq_true, if_false, cmpZ]
        rw [if_neg (by omega), if_pos (by omega)]
        omega
      · rw [show decide (x < 0) = false from by simpa using nx, show decide (y < 0) = false from by simpa using ny, form_pos, cmp_formsI _ _ a1 b1 a2 b2]
        have := size_order x.natAbs y.natAbs (by omega) (by omega) _ rfl
        unfold expo
        omega
theorem cloneC (l : List Int) (h : l.length ≤ 2000) : bytes_Clone.f l = some l := by unfold bytes_Clone.f; rw [if_pos (by omega)]
end Go.Proofs.YtepooaejlofkkaaDoor.Pure

namespace Go.Proofs.YtepooaejlofkkaaDoor.Pure
open Go Go.RowKit Go.Proofs.YtepooaejlofkkaaDoor Go.Proofs.YtepooaejlofkkaaDoor.X Go.Proofs.YtepooaejlofkkaaDoorW.PrintWords Go.Proofs.YtepooaejlofkkaaDoorW.PrintLast
set_option linter.unusedVariables false
set_option linter.unusedSimpArgs false
theorem bytes_fU (D : List Int) (hg : Digs D) (hl : D.length ≤ 20) (h0 : 0 < D.length) (neg : Bool) (e : Int) (he : -100 ≤ e ∧ e ≤ 100) (k : Nat) (hk : 60 ≤ k) :
    ZN.spec_NumberBytes.f k D neg e = some (formOf neg (pairs10 (padded D e)) (powerOf e)) := by
  have hp := power_rng e he
  have stage : ∀ (d : List Int) (x9 : Int), Digs d → d.length ≤ 21 → -62 ≤ Int.tdiv x9 2 ∧ Int.tdiv x9 2 ≤ 62 →
      ZN.spec_NumberBytes.j0 k neg [] d x9 = some (formOf neg (pairs10 (if d.length % 2 = 1 then d ++ [0] else d)) (Int.tdiv x9 2)) := by
    intro d x9 hd hdl h9
    obtain ⟨k, rfl⟩ : ∃ m, k = m + 2 := ⟨k - 2, by omega⟩
    simp only [ZN.spec_NumberBytes.j0, ZN.spec_NumberBytes.j1]
    by_cases ho : d.length % 2 = 1
    · rw [if_pos (by omega), if_pos (by omega), if_pos ho]
      exact bytes_l0 (d ++ [0]) (digs_snoc hd) (by rw [List.length_append]; simp; omega) (by rw [List.length_append]; simp; omega) neg x9 h9 ((d.length + 1) / 2) k [] 0 (by rw [List.length_append]; simp; omega) (by omega) (by omega) rfl
    · rw [if_neg (by omega), if_neg ho]
      exact bytes_l0 d hd (by omega) (by omega) neg x9 h9 (d.length / 2) k [] 0 (by omega) (by omega) (by omega) rfl
  unfold ZN.spec_NumberBytes.f
  rw [if_neg (by omega)]
  simp only [Option.bind_some, List.nil_append, List.length_nil, Nat.zero_add]
  rw [if_pos (by omega)]
  unfold padded powerOf
  by_cases hev : Int.tmod e 2 = 0
  · rw [if_pos hev, if_pos hev, if_pos hev]
    simp only [List.length_cons, List.length_nil]
    rw [if_pos (by omega)]
    have := stage (0 :: D) e (digs_cons hg) (by simp; omega) (by unfold powerOf at hp; rwa [if_pos hev] at hp)
    exact this
  · rw [if_neg hev, if_neg hev, if_neg hev, wrap_id (e - 1) (by omega)]
    exact stage D (e - 1) hg (by omega) (by unfold powerOf at hp; rwa [if_neg hev] at hp)

theorem toNum_letsU (D : List Int) (hg : Digs D) (hl : D.length ≤ 20) (h0 : 0 < D.length) (e : Int) (he : -100 ≤ e ∧ e ≤ 100) :
    toNum (lets D) false e = formOf false (pairs10 (padded D e)) (powerOf e) := by
  have hev : evened (lets D) e = lets (if Int.tmod e 2 = 0 then 0 :: D else D) := by
    unfold evened
    split
    · rfl
    · rfl
  have hd : Digs (if Int.tmod e 2 = 0 then 0 :: D else D) := by split; exact digs_cons hg; exact hg
  have hdl : (if Int.tmod e 2 = 0 then 0 :: D else D).length ≤ 21 := by
    split
    · simp only [List.length_cons]; omega
    · omega
  unfold toNum
  rw [if_neg (by rw [lets_length]; omega), hev, pairs_lets false _ hd, head_eq false e he, lets_length]
  show _ = formOf false (pairs10 (if (if Int.tmod e 2 = 0 then 0 :: D else D).length % 2 = 1 then (if Int.tmod e 2 = 0 then 0 :: D else D) ++ [0] else (if Int.tmod e 2 = 0 then 0 :: D else D))) (powerOf e)
  generalize (if Int.tmod e 2 = 0 then 0 :: D else D) = d at *
  unfold formOf
  simp


theorem nd_fU (u : Nat) (hu : u ≤ 18446744073709551615) (k : Nat) (hk : 100 ≤ k) : ZN.spec_NumberDigits.f k (u : Int) = some (stripT (digs u), ((digs u).length : Int) - 1) := by
  unfold ZN.spec_NumberDigits.f
  have hl := digs_len u 20 (by omega)
  have := nd_l0 u k [] (by omega) (by rw [List.append_nil]; omega) (by rw [List.append_nil]; omega) (by omega)
  rw [List.append_nil] at this
  exact this
/-- The form of a number without a sign. -/
def formU (u : Nat) : List Int := formOf false (pairs10 (padded (stripT (digs u)) (((digs u).length : Int) - 1))) (powerOf (((digs u).length : Int) - 1))
theorem digs20 (u : Nat) (hu : u ≤ 18446744073709551615) : (digs u).length ≤ 20 := digs_len u 20 (by omega)
theorem enc_formU (u : Nat) (hu : u ≤ 18446744073709551615) (h : u ≠ 0) : EncRes u = formU u := by
  obtain ⟨hN, hp, hle, _⟩ := strip_norm u h
  have h20 := digs20 u hu
  unfold EncRes formU
  rw [dg_lets u (by omega), Int.natAbs_natCast, trimZ_lets _ _ rfl (digs_digs _), lets_length, show decide ((u : Int) < 0) = false from by rw [decide_eq_false_iff_not]; omega]
  exact toNum_letsU (stripT (digs u)) hN.digs (by omega) hp _ (by omega)
theorem spec_formU (u : Nat) (hu : u ≤ 18446744073709551615) (k : Nat) (hk : 100 ≤ k) : ZX.spec_NumberOfUint.f k u = some (EncRes u) := by
  unfold ZX.spec_NumberOfUint.f
  rw [show X.spec_NumberDigits.f k (u : Int) = ZN.spec_NumberDigits.f k (u : Int) from rfl, nd_fU u hu k hk]
  simp only [Option.bind_some]
  by_cases h : u = 0
  · subst h
    rw [digs_zero]
    have : EncRes ((0 : Nat) : Int) = [128] := enc_zero
    rw [this]
    rfl
  · obtain ⟨hN, hp, hle, _⟩ := strip_norm u h
    have h20 := digs20 u hu
    have hb : X.spec_NumberBytes.f k (stripT (digs u)) false (((digs u).length : Int) - 1) = some (formU u) := bytes_fU _ hN.digs (by omega) hp false (((digs u).length : Int) - 1) (by omega) k (by omega)
    rw [enc_formU u hu h, hb]
    rfl
theorem valD_noughts (l : List Int) : ∀ z : Nat, valD (l ++ List.replicate z 0) = valD l * 10 ^ z
  | 0 => by simp
  | z + 1 => by
    rw [List.replicate_succ', ← List.append_assoc, valD_snoc, valD_noughts l z, Int.pow_succ, ← Int.mul_assoc (valD l) (10 ^ z) 10]
    omega
theorem valD_zero (l : List Int) : valD (0 :: l) = valD l := rfl
/-- What the pairs are worth. -/
theorem pairs_val (u : Nat) (h : u ≠ 0) : ∃ m : Nat, powerOf (((digs u).length : Int) - 1) + 1 = ((pairs10 (padded (stripT (digs u)) (((digs u).length : Int) - 1))).length : Int) + m ∧
    val100 0 (pairs10 (padded (stripT (digs u)) (((digs u).length : Int) - 1))) * 100 ^ m = (u : Int) := by
  obtain ⟨z, hz⟩ := stripT_eq _ (digs u) rfl
  have hp := (digs_first u h).1
  have hv := valD_digs u
  have hlen := congrArg List.length hz
  rw [List.length_append, List.length_replicate] at hlen
  rw [power_floor, padded_pad]
  generalize hX : (if (((digs u).length : Int) - 1) % 2 = 0 then 0 :: stripT (digs u) else stripT (digs u)) = X
  obtain ⟨hp1, hp2⟩ := pad_len X
  have hXv : valD (X ++ List.replicate z 0) = (u : Int) ∧ ((X ++ List.replicate z 0).length : Int) = 2 * ((((digs u).length : Int) - 1) / 2 + 1) := by
    rw [← hX]
    split
    · rw [List.cons_append, valD_zero, ← hz, hv]
      refine ⟨rfl, ?_⟩
      simp only [List.length_cons]
      omega
    · rw [← hz, hv]
      exact ⟨rfl, by omega⟩
  obtain ⟨hv1, hv2⟩ := hXv
  rw [List.length_append, List.length_replicate] at hv2
  have hpz : ∃ y, X ++ List.replicate z 0 = pad X ++ List.replicate y 0 ∧ X.length + z = (pad X).length + y := by
    unfold pad
    split
    · rename_i ho
      obtain ⟨y, rfl⟩ : ∃ y, z = y + 1 := ⟨z - 1, by omega⟩
      exact ⟨y, by rw [List.replicate_succ, List.append_assoc]; rfl, by rw [List.length_append]; simp; omega⟩
    · exact ⟨z, rfl, rfl⟩
  obtain ⟨y, hy, hyl⟩ := hpz
  obtain ⟨m, rfl⟩ : ∃ m, y = 2 * m := ⟨y / 2, by omega⟩
  refine ⟨m, by rw [pairs10_length]; omega, ?_⟩
  rw [val100_pairs _ _ hp1]
  show valD (pad X) * 100 ^ m = _
  rw [hy, valD_noughts] at hv1
  rw [← hv1, Int.pow_mul]
  rfl
theorem u64w (v : Int) : IntKind.u64.wrap v = v % 18446744073709551616 := by rw [IntKind.wrap_u64]
theorem back_l1 (m : Nat) : ∀ (k : Nat) (a : Int), m < k → m ≤ 1000 → ZU.converters_toUInt64.l1 k (a % 18446744073709551616) ((m : Int) - 1) = some (a * 100 ^ m % 18446744073709551616, none) := by
  induction m with
  | zero =>
    intro k a hk _
    obtain ⟨k, rfl⟩ : ∃ q, k = q + 1 := ⟨k - 1, by omega⟩
    rw [ZU.converters_toUInt64.l1, if_neg (by omega)]
    simp
  | succ m ih =>
    intro k a hk hm
    obtain ⟨k, rfl⟩ : ∃ q, k = q + 1 := ⟨k - 1, by omega⟩
    rw [ZU.converters_toUInt64.l1, if_pos (by omega), u64w, wrap_id _ (by omega), show a % 18446744073709551616 * 100 % 18446744073709551616 = (a * 100) % 18446744073709551616 from by omega,
      show ((m + 1 : Nat) : Int) - 1 - 1 = (m : Int) - 1 from by omega, ih k (a * 100) (by omega) (by omega), Int.pow_succ, Int.mul_assoc, Int.mul_comm 100]
theorem back_l0 (h : Int) (P : List Int) (hP : ∀ p ∈ P, 0 ≤ p ∧ p ≤ 99) (hl : P.length ≤ 100) (m : Nat) (hm : m ≤ 100) (x5 : Int) (h5 : x5 = (P.length : Int) + m - 1) (d : Nat) : ∀ (k : Nat) (a : Int) (i : Nat), P.length - i = d → i ≤ P.length → d + m + 1 < k →
    ZU.converters_toUInt64.l0 k (h :: P.map fun p => p + 1) x5 (P.length : Int) (P.length : Int) (a % 18446744073709551616) (i : Int) = some (val100 a (P.drop i) * 100 ^ m % 18446744073709551616, none) := by
  induction d with
  | zero =>
    intro k a i hd hi hk
    obtain ⟨k, rfl⟩ : ∃ q, k = q + 1 := ⟨k - 1, by omega⟩
    rw [ZU.converters_toUInt64.l0, if_neg (by omega), wrap_id _ (by omega), show x5 - (P.length : Int) = (m : Int) - 1 from by omega, back_l1 m k a (by omega) (by omega), List.drop_eq_nil_of_le (by omega)]
    rfl
  | succ d ih =>
    intro k a i hd hi hk
    obtain ⟨k, rfl⟩ : ∃ q, k = q + 1 := ⟨k - 1, by omega⟩
    have hlt : i < P.length := by omega
    have hr : rd (h :: P.map fun p => p + 1) ((i : Int) + 1) = P[i] + 1 := by
      unfold rd
      rw [show ((i : Int) + 1).toNat = i + 1 from by omega, List.getD_eq_getElem?_getD, List.getElem?_cons_succ, List.getElem?_map, List.getElem?_eq_getElem hlt]
      rfl
    have hp := hP P[i] (List.getElem_mem hlt)
    rw [ZU.converters_toUInt64.l0, if_pos (by omega), wrap_id ((i : Int) + 1) (by omega), if_pos (by omega), if_pos (by simp only [List.length_cons, List.length_map]; omega), hr, u64w, u64w, u64w, u64w]
    have e : (a % 18446744073709551616 * 100 % 18446744073709551616 + ((P[i] + 1) % 18446744073709551616 - 1) % 18446744073709551616) % 18446744073709551616 = (100 * a + P[i]) % 18446744073709551616 := by omega
    rw [e, show (i : Int) + 1 = ((i + 1 : Nat) : Int) from by omega, ih k (100 * a + P[i]) (i + 1) (by omega) (by omega) (by omega), List.drop_eq_getElem_cons hlt]
    rfl
theorem max_form : EncRes ((18446744073709551615 : Nat) : Int) = [202, 19, 45, 68, 45, 8, 38, 10, 56, 17, 16] := by decide +kernel
theorem order_formU (u v : Nat) (hu : u ≠ 0) (hv : v ≠ 0) : (cmpZ (formU u) (formU v) < 0 ↔ u < v) ∧ (0 < cmpZ (formU u) (formU v) ↔ v < u) := by
  obtain ⟨a1, a2, a3, a4⟩ := strip_norm u hu
  obtain ⟨b1, b2, b3, b4⟩ := strip_norm v hv
  unfold formU
  rw [form_pos, cmp_formsI _ _ a1 b1 a2 b2]
  exact size_order u v hu hv _ rfl
theorem toU (u : Nat) (hu : u ≤ 18446744073709551615) (k : Nat) (hk : 200 ≤ k) : ZU.converters_NumberToUInt64.f k (EncRes u) = some ((u : Int), none) := by
  have key : ZU.converters_toUInt64Internal.f k (EncRes u) [202, 19, 45, 68, 45, 8, 38, 10, 56, 17, 16] [128] = some ((u : Int), none) := by
    by_cases h : u = 0
    · subst h
      have : EncRes ((0 : Nat) : Int) = [128] := enc_zero
      rw [this]
      rfl
    · obtain ⟨hN, hp, hle, _⟩ := strip_norm u h
      have h20 := digs20 u hu
      have hd1 := (digs_first u h).1
      obtain ⟨m, hm1, hm2⟩ := pairs_val u h
      have hP := pairs10_rng _ (padded_digs hN.digs (((digs u).length : Int) - 1))
      have ho := order_formU u 18446744073709551615 h (by omega)
      rw [← enc_formU 18446744073709551615 (by omega) (by omega), max_form] at ho
      have hpw : 0 ≤ powerOf (((digs u).length : Int) - 1) ∧ powerOf (((digs u).length : Int) - 1) ≤ 9 := by rw [power_floor]; omega
      have hby : Byt (formU u) := form_byt _ _ _ hP (by omega)
      rw [enc_formU u hu h]
      have hform : formU u = (193 + powerOf (((digs u).length : Int) - 1)) :: (pairs10 (padded (stripT (digs u)) (((digs u).length : Int) - 1))).map fun p => p + 1 := by unfold formU formOf; rw [if_neg Bool.false_ne_true]
      generalize pairs10 (padded (stripT (digs u)) (((digs u).length : Int) - 1)) = P at *
      generalize powerOf (((digs u).length : Int) - 1) = pw at *
      obtain ⟨p, rfl⟩ := Int.eq_ofNat_of_zero_le hpw.1
      have hlen : (formU u).length = P.length + 1 := by rw [hform]; simp
      have hr : rd (formU u) 0 = 193 + (p : Int) := by rw [hform]; rfl
      have g := and_great (65 + p) (by omega)
      rw [show ((65 + p + 128 : Nat) : Int) = 193 + (p : Int) from by omega] at g
      have z1 : ZU.converters__isZero.f (formU u) = some false := by
        unfold ZU.converters__isZero.f
        rw [hr, hlen, if_pos (by omega), if_neg (by omega)]
      have z2 : ZU.converters__isInf.f (formU u) = some false := by
        unfold ZU.converters__isInf.f
        rw [hr]
        repeat' split
        all_goals first | rfl | omega
      have c1 : converters_compareBytes.f (formU u) [202, 19, 45, 68, 45, 8, 38, 10, 56, 17, 16] = some (cmpZ (formU u) [202, 19, 45, 68, 45, 8, 38, 10, 56, 17, 16]) := by
        unfold converters_compareBytes.f
        rw [if_pos ⟨by rw [hlen]; omega, by decide⟩, if_pos ⟨hby, by decide⟩, cmpI_cmpZ]
      have c2 : converters_compareBytes.f (formU u) [128] = some 1 := by
        unfold converters_compareBytes.f
        rw [if_pos ⟨by rw [hlen]; omega, by decide⟩, if_pos ⟨hby, by decide⟩, hform]
        simp only [cmpI]
        rw [if_neg (by omega), if_pos (by omega)]
      unfold ZU.converters_toUInt64Internal.f
      rw [z1]
      simp only [Option.bind_some]
      rw [if_neg Bool.false_ne_true, z2]
      simp only [Option.bind_some]
      rw [if_neg Bool.false_ne_true, c1]
      simp only [Option.bind_some]
      rw [if_neg (show ¬ cmpZ (formU u) [202, 19, 45, 68, 45, 8, 38, 10, 56, 17, 16] > 0 from by omega), c2]
      simp only [Option.bind_some]
      obtain ⟨k, rfl⟩ : ∃ q, k = q + 2 := ⟨k - 2, by omega⟩
      rw [show decide ((1 : Int) < 0) = false from rfl, ZU.converters_toUInt64Internal.j0, if_neg Bool.false_ne_true]
      have hu64 : ZU.converters_toUInt64.f (k + 1) (formU u) = some ((u : Int), none) := by
        unfold ZU.converters_toUInt64.f ZU.converters__isPositive.f
        rw [hr, g.1, g.2, hlen, if_pos (by omega)]
        simp only [Option.bind_some]
        rw [if_pos (by rfl), if_pos (by omega), wrap_id _ (by omega), if_neg (by omega), ZU.converters_toUInt64.j0,
          show (((65 + p : Nat) : Int) - 65) % 256 = (P.length : Int) + m - 1 from by omega, show ((P.length + 1 : Nat) : Int) - 1 = (P.length : Int) from by omega]
        have := back_l0 (193 + (p : Int)) P hP (by omega) m (by omega) ((P.length : Int) + m - 1) rfl P.length k 0 0 (by omega) (by omega) (by omega)
        rw [hform]
        rw [List.drop_zero, hm2] at this
        rw [show (u : Int) % 18446744073709551616 = u from by omega] at this
        exact this
      rw [hu64]
      rfl
  unfold ZU.converters_NumberToUInt64.f ZU.converters_Uint64MaxByte.f ZU.converters_Uint64MinByte.f
  simp only [Option.bind_some]
  rw [key]
  rfl
theorem encU_len (u : Nat) (hu : u ≤ 18446744073709551615) : (EncRes u).length ≤ 100 := by
  by_cases h : u = 0
  · subst h
    have : EncRes ((0 : Nat) : Int) = [128] := enc_zero
    rw [this]; decide
  · obtain ⟨hN, hp, hle, _⟩ := strip_norm u h
    have h20 := digs20 u hu
    rw [enc_formU u hu h]
    have hpl : (pairs10 (padded (stripT (digs u)) (((digs u).length : Int) - 1))).length ≤ 20 := by
      rw [pairs10_length, padded_pad, (pad_len _).2]
      split
      · simp only [List.length_cons]; omega
      · omega
    unfold formU formOf
    rw [if_neg Bool.false_ne_true]
    simp only [List.length_cons, List.length_map]
    omega
theorem FnNumberUint64 (a0 : Int) (w0 : (Lit.int .u64 a0).wf = true) : ∃ k, ZX.laws_FnNumberUint64.f k a0 = some true := by
  have hr : 0 ≤ a0 ∧ a0 ≤ 18446744073709551615 := rng w0
  obtain ⟨u, rfl⟩ := Int.eq_ofNat_of_zero_le hr.1
  have hu : u ≤ 18446744073709551615 := by omega
  have hl := encU_len u hu
  refine ⟨300, ?_⟩
  unfold ZX.laws_FnNumberUint64.f ZX.impl_NumberOfUint64.f converters_EncodeUint64.f
  rw [if_pos hr]
  simp only [Option.bind_some]
  have o : ZX.laws_numberOwn.f (EncRes u) = some (EncRes u) := by
    unfold ZX.laws_numberOwn.f
    simp only [Option.bind_some, List.length_nil, Nat.zero_add, List.nil_append]
    rw [if_pos (by omega)]
  rw [o]
  simp only [Option.bind_some]
  have hn : impl_NumberUint64.f 300 (EncRes u) = some ((u : Int), true) := by
    unfold impl_NumberUint64.f
    rw [cloneC _ (by omega)]
    simp only [Option.bind_some]
    rw [toU u hu 300 (by omega)]
    rfl
  rw [hn]
  simp only [Option.bind_some]
  rw [spec_formU u hu 300 (by omega)]
  simp only [Option.bind_some]
  have e2 : ∀ x, ZX.spec_NumberSame.f x x = some true := fun x => by unfold ZX.spec_NumberSame.f; rw [beq_self_eq_true]
  rw [e2]
  simp only [Option.bind_some, if_true]
  rw [show X.laws_numberAwake.f 300 = some true from awake_k 300 (by omega)]
  rfl
end Go.Proofs.YtepooaejlofkkaaDoor.Pure
