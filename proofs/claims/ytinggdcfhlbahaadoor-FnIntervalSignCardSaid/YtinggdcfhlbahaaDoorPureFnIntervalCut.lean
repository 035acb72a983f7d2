/- The pure laws of FnIntervalCut and FnIntervalSign: the text of an interval of days is made of its sign and of five padded numbers; these are the same for both. -/
import Derived.Test.YtinggdcfhlbahaaDoorZP
import Derived.Lib.ItoaLen
namespace Go.Proofs.YtinggdcfhlbahaaDoor.Pure
open Go Go.RowKit Go.Proofs.YtinggdcfhlbahaaDoor Go.Proofs.YtinggdcfhlbahaaDoor.X Go.Proofs.YtinggdcfhlbahaaDoor.ZP Go.Proofs.YtinggdcfhlbahaaDoorW.PrintWords Go.Proofs.YtinggdcfhlbahaaDoorW.PrintLast Go.Proofs.YtinggdcfhlbahaaDoorW.PrintMore
set_option linter.unusedVariables false
set_option linter.unusedSimpArgs false
theorem rng {k : IntKind} {n : Int} (h : (Lit.int k n).wf = true) : k.min ≤ n ∧ n ≤ k.max := by
  simp only [Lit.wf, Bool.and_eq_true, decide_eq_true_eq] at h
  exact h

theorem l0_some (x6 : ByteArray) (h6 : x6.size ≤ 1) (x1 : Int) (h1 : x1 ≤ 6) (d : Nat) : ∀ (k : Nat) (x5 : ByteArray), 6 - (x5.size : Int) ≤ d → d < k → x5.size ≤ 30 → ∃ s, converters_zzPadded.l0 k x1 x5 x6 = some s ∧ s.size ≤ 40 := by
  induction d with
  | zero =>
    intro k x5 hd hk hs
    obtain ⟨k, rfl⟩ : ∃ m, k = m + 1 := ⟨k - 1, by omega⟩
    simp only [converters_zzPadded.l0]
    rw [if_neg (by omega), if_pos (by omega)]
    exact ⟨_, rfl, by rw [ByteArray.size_append]; omega⟩
  | succ d ih =>
    intro k x5 hd hk hs
    obtain ⟨k, rfl⟩ : ∃ m, k = m + 1 := ⟨k - 1, by omega⟩
    simp only [converters_zzPadded.l0]
    by_cases h : (x5.size : Int) < x1
    · rw [if_pos h, if_pos (by omega)]
      have e : ((⟨#[48]⟩ : ByteArray) ++ x5).size = 1 + x5.size := by rw [ByteArray.size_append]; rfl
      exact ih k _ (by rw [e]; omega) (by omega) (by rw [e]; omega)
    · rw [if_neg h, if_pos (by omega)]
      exact ⟨_, rfl, by rw [ByteArray.size_append]; omega⟩

theorem wrap_id (n : Int) (h : -9223372036854775808 ≤ n ∧ n ≤ 9223372036854775807) : wrap64 n = n := IntWalk.wrap64_in n h

/-- A padded number: some text of at most 40 letters. -/
theorem zz_ex (n w : Int) (h0 : -9223372036854775808 ≤ n) (h1 : n ≤ 9223372036854775807) (hw : 0 ≤ w ∧ w ≤ 6) : ∃ s, converters_zzPadded.f 20 n w = some s ∧ s.size ≤ 40 := by
  unfold converters_zzPadded.f strconv_FormatInt.f
  rw [if_pos rfl, if_pos ⟨h0, h1⟩]
  have hl := Lib.itoa_length_le n h0 h1
  have e : (⟨(Lib.itoa n).toArray⟩ : ByteArray).size = (Lib.itoa n).length := by simp [ByteArray.size]
  have hp : 0 < (Lib.itoa n).length := by
    unfold Lib.itoa
    split
    · simp
    · rw [Lib.decDigits]; split <;> simp
  simp only [Option.bind_some]
  rw [if_pos (by rw [e]; omega)]
  generalize (⟨(Lib.itoa n).toArray⟩ : ByteArray) = t at *
  split
  · rw [if_pos (by omega)]
    simp only [converters_zzPadded.j0]
    rw [wrap_id _ (by omega)]
    exact l0_some _ (by show (1 : Nat) ≤ 1; omega) _ (by omega) 18 _ _ (by omega) (by omega) (by rw [ByteArray.size_extract]; omega)
  · simp only [converters_zzPadded.j0]
    exact l0_some _ (by show (0 : Nat) ≤ 1; omega) _ (by omega) 18 _ _ (by omega) (by omega) (by omega)

def zz (n w : Int) : ByteArray := (converters_zzPadded.f 20 n w).getD ByteArray.empty
theorem zz_some (n w : Int) (h0 : -9223372036854775808 ≤ n) (h1 : n ≤ 9223372036854775807) (hw : 0 ≤ w ∧ w ≤ 6) : converters_zzPadded.f 20 n w = some (zz n w) ∧ (zz n w).size ≤ 40 := by
  obtain ⟨s, hs, hl⟩ := zz_ex n w h0 h1 hw
  unfold zz
  rw [hs]
  exact ⟨rfl, hl⟩

theorem live : laws_intervalsLive.f 20 = some true := by decide +kernel

/-- The text of an interval of days. -/
def txt (s : UInt8) (a b c d e : ByteArray) : ByteArray := (((((((((⟨#[s]⟩ : ByteArray) ++ a) ++ (⟨#[32]⟩ : ByteArray)) ++ b) ++ (⟨#[58]⟩ : ByteArray)) ++ c) ++ (⟨#[58]⟩ : ByteArray)) ++ d) ++ (⟨#[46]⟩ : ByteArray)) ++ e

theorem ds_pos (l : List Int) (hl : l.length = 11) (hb : Byt l) (hd : 2147483648 ≤ be4 l) :
    converters_ConvertIntervalDS_DTY.f 20 l = some (txt 43 (zz (be4 l - 2147483648) 2) (zz ((rd l 4 - 60) % 256) 2) (zz ((rd l 5 - 60) % 256) 2) (zz ((rd l 6 - 60) % 256) 2) (zz (Int.tdiv (be4 (l.drop 7) - 2147483648) 1000) 6)) := by
  have b0 := hb.get 0; have b1 := hb.get 1; have b2 := hb.get 2; have b3 := hb.get 3
  have hu : be4 l ≤ 4294967295 := by unfold be4; omega
  have hb' : Byt (l.drop 7) := fun x hx => hb x (List.mem_of_mem_drop hx)
  have d0 := hb'.get 0; have d1 := hb'.get 1; have d2 := hb'.get 2; have d3 := hb'.get 3
  have hv : 0 ≤ be4 (l.drop 7) ∧ be4 (l.drop 7) ≤ 4294967295 := by unfold be4; omega
  have hld : (l.drop 7).length = 4 := by rw [List.length_drop]; omega
  have e1 : binary_bigEndian_Uint32.f l = some (be4 l) := by unfold binary_bigEndian_Uint32.f; rw [if_pos (by omega), if_pos hb]
  have e2 : binary_bigEndian_Uint32.f (l.drop 7) = some (be4 (l.drop 7)) := by unfold binary_bigEndian_Uint32.f; rw [if_pos (by omega), if_pos hb']
  generalize be4 l = u at *
  generalize be4 (l.drop 7) = v at *
  have ht : -2147483648 ≤ Int.tdiv (v - 2147483648) 1000 ∧ Int.tdiv (v - 2147483648) 1000 ≤ 2147483647 := by
    by_cases h : 0 ≤ v - 2147483648
    · rw [Int.tdiv_eq_ediv_of_nonneg h]; omega
    · have e : v - 2147483648 = -(2147483648 - v) := by omega
      rw [e, Int.neg_tdiv, Int.tdiv_eq_ediv_of_nonneg (by omega)]; omega
  have z1 := zz_some (u - 2147483648) 2 (by omega) (by omega) (by omega)
  have z2 := zz_some ((rd l 4 - 60) % 256) 2 (by omega) (by omega) (by omega)
  have z3 := zz_some ((rd l 5 - 60) % 256) 2 (by omega) (by omega) (by omega)
  have z4 := zz_some ((rd l 6 - 60) % 256) 2 (by omega) (by omega) (by omega)
  have z5 := zz_some (Int.tdiv (v - 2147483648) 1000) 6 (by omega) (by omega) (by omega)
  unfold converters_ConvertIntervalDS_DTY.f
  rw [e1]
  simp only [Option.bind_some]
  rw [wrap_id u (by omega), wrap_id (u - 2147483648) (by omega), if_pos (by omega), if_pos (by omega), if_pos (by omega), if_pos (by omega), if_pos (by omega), e2]
  simp only [Option.bind_some]
  rw [wrap_id v (by omega), wrap_id (v - 2147483648) (by omega), wrap_id (Int.tdiv (v - 2147483648) 1000) (by omega), z1.1]
  simp only [Option.bind_some]
  simp only [z2.1, z3.1, z4.1, z5.1, Option.bind_some]
  have s1 := z1.2; have s2 := z2.2; have s3 := z3.2; have s4 := z4.2; have s5 := z5.2
  simp only [ByteArray.size_append, ba_size_mk, List.size_toArray, List.length_cons, List.length_nil]
  rw [if_pos (by omega), if_pos (by omega), if_pos (by omega), if_pos (by omega), if_pos (by omega), if_pos (by omega), if_pos (by omega), if_pos (by omega), if_pos (by omega)]
  rfl

theorem ds_neg (l : List Int) (hl : l.length = 11) (hb : Byt l) (hd : be4 l < 2147483648) :
    converters_ConvertIntervalDS_DTY.f 20 l = some (txt 45 (zz (2147483648 - be4 l) 2) (zz ((60 - rd l 4) % 256) 2) (zz ((60 - rd l 5) % 256) 2) (zz ((60 - rd l 6) % 256) 2) (zz (Int.tdiv (2147483648 - be4 (l.drop 7)) 1000) 6)) := by
  have b0 := hb.get 0; have b1 := hb.get 1; have b2 := hb.get 2; have b3 := hb.get 3
  have hu : 0 ≤ be4 l := by unfold be4; omega
  have hb' : Byt (l.drop 7) := fun x hx => hb x (List.mem_of_mem_drop hx)
  have d0 := hb'.get 0; have d1 := hb'.get 1; have d2 := hb'.get 2; have d3 := hb'.get 3
  have hv : 0 ≤ be4 (l.drop 7) ∧ be4 (l.drop 7) ≤ 4294967295 := by unfold be4; omega
  have hld : (l.drop 7).length = 4 := by rw [List.length_drop]; omega
  have e1 : binary_bigEndian_Uint32.f l = some (be4 l) := by unfold binary_bigEndian_Uint32.f; rw [if_pos (by omega), if_pos hb]
  have e2 : binary_bigEndian_Uint32.f (l.drop 7) = some (be4 (l.drop 7)) := by unfold binary_bigEndian_Uint32.f; rw [if_pos (by omega), if_pos hb']
  generalize be4 l = u at *
  generalize be4 (l.drop 7) = v at *
  have e5 : 2147483648 - v = -(v - 2147483648) := by omega
  have e6 : 2147483648 - u = -(u - 2147483648) := by omega
  rw [e5, e6]
  have ht : -2147483648 ≤ Int.tdiv (-(v - 2147483648)) 1000 ∧ Int.tdiv (-(v - 2147483648)) 1000 ≤ 2147483648 := by
    by_cases h : 0 ≤ v - 2147483648
    · rw [Int.neg_tdiv, Int.tdiv_eq_ediv_of_nonneg h]; omega
    · rw [Int.tdiv_eq_ediv_of_nonneg (by omega)]; omega
  have z1 := zz_some (-(u - 2147483648)) 2 (by omega) (by omega) (by omega)
  have z2 := zz_some ((60 - rd l 4) % 256) 2 (by omega) (by omega) (by omega)
  have z3 := zz_some ((60 - rd l 5) % 256) 2 (by omega) (by omega) (by omega)
  have z4 := zz_some ((60 - rd l 6) % 256) 2 (by omega) (by omega) (by omega)
  have z5 := zz_some (Int.tdiv (-(v - 2147483648)) 1000) 6 (by omega) (by omega) (by omega)
  unfold converters_ConvertIntervalDS_DTY.f
  rw [e1]
  simp only [Option.bind_some]
  rw [wrap_id u (by omega), wrap_id (u - 2147483648) (by omega), if_neg (by omega), if_pos (by omega), if_pos (by omega), if_pos (by omega), if_pos (by omega), e2]
  simp only [Option.bind_some]
  rw [wrap_id v (by omega), wrap_id (v - 2147483648) (by omega), wrap_id (-(v - 2147483648)) (by omega), wrap_id (-(u - 2147483648)) (by omega), wrap_id (Int.tdiv (-(v - 2147483648)) 1000) (by omega), z1.1]
  simp only [Option.bind_some]
  simp only [z2.1, z3.1, z4.1, z5.1, Option.bind_some]
  have s1 := z1.2; have s2 := z2.2; have s3 := z3.2; have s4 := z4.2; have s5 := z5.2
  simp only [ByteArray.size_append, ba_size_mk, List.size_toArray, List.length_cons, List.length_nil]
  rw [if_pos (by omega), if_pos (by omega), if_pos (by omega), if_pos (by omega), if_pos (by omega), if_pos (by omega), if_pos (by omega), if_pos (by omega), if_pos (by omega)]
  rfl

/-- What is right. -/
structure Right (m : Bool) (d h mi s n : Int) : Prop where
  d0 : 0 ≤ d
  d1 : d < 1000000000
  h0 : 0 ≤ h
  h1 : h < 24
  m0 : 0 ≤ mi
  m1 : mi < 60
  s0 : 0 ≤ s
  s1 : s < 60
  n0 : 0 ≤ n
  n1 : n < 1000000000
  dm : m = true → 0 < d

theorem right_of (m : Bool) (d h mi s n x y : Int) : laws_intervalRight.f m d h mi s n x y = some true → Right m d h mi s n := by
  intro e
  unfold laws_intervalRight.f at e
  repeat' split at e
  all_goals first
    | (cases e; done)
    | (have e' := Option.some.inj e
       exact ⟨by omega, by omega, by omega, by omega, by omega, by omega, by omega, by omega, by omega, by omega, fun h => by first | (have := of_decide_eq_true e'; omega) | (exact absurd h ‹_›)⟩)
theorem right_total (m : Bool) (d h mi s n x y : Int) : ∃ b, laws_intervalRight.f m d h mi s n x y = some b := by
  unfold laws_intervalRight.f
  repeat' split
  all_goals exact ⟨_, rfl⟩

theorem clone_f (l : List Int) (h : l.length < 1000) : bytes_Clone.f l = some l := by unfold bytes_Clone.f; rw [if_pos (by omega)]

theorem be_of (u : Int) (h : 0 ≤ u ∧ u ≤ 4294967295) (r : List Int) : be4 ([(u / 16777216) % 256, (u / 65536) % 256, (u / 256) % 256, u % 256] ++ r) = u := by
  unfold be4
  show (((u / 16777216 % 256) * 256 + (u / 65536 % 256)) * 256 + (u / 256 % 256)) * 256 + u % 256 = u
  omega

/-- The bytes of an interval, read as its text. -/
theorem days_text (m : Bool) (d h mi s n x y : Int) (R : Right m d h mi s n) :
    ∃ l, spec_IntervalDays.f m d h mi s n x y = some l ∧ impl_IntervalDays.f 20 l = some (txt (if m then 45 else 43) (zz d 2) (zz h 2) (zz mi 2) (zz s 2) (zz (n / 1000) 6)) := by
  obtain ⟨d0, d1, h0, h1, m0, m1, s0, s1, n0, n1, dm⟩ := R
  cases m with
  | false =>
    clear dm
    unfold spec_IntervalDays.f spec_dateFour.f
    rw [if_neg (by simp)]
    simp only [Option.bind_some]
    rw [wrap_id d (by omega), wrap_id h (by omega), wrap_id mi (by omega), wrap_id s (by omega), wrap_id n (by omega), wrap_id (h + 60) (by omega), wrap_id (mi + 60) (by omega), wrap_id (s + 60) (by omega)]
    obtain ⟨u, hu⟩ : ∃ u, u = (d % 4294967296 + 2147483648) % 4294967296 := ⟨_, rfl⟩
    obtain ⟨v, hv⟩ : ∃ v, v = (n % 4294967296 + 2147483648) % 4294967296 := ⟨_, rfl⟩
    rw [← hu, ← hv]
    have eu : u = d + 2147483648 := by omega
    have ev : v = n + 2147483648 := by omega
    clear hu hv
    simp only [List.length_append, List.length_cons, List.length_nil]
    rw [if_pos (by omega), if_pos (by omega)]
    refine ⟨_, rfl, ?_⟩
    unfold impl_IntervalDays.f
    rw [if_neg (by simp), clone_f _ (by simp)]
    simp only [Option.bind_some]
    rw [ds_pos _ (by simp) (by intro z hz; simp at hz; omega) (by rw [List.append_assoc, be_of u (by omega)]; omega)]
    simp only [Option.bind_some]
    congr 1
    have q1 : be4 (([u / 16777216 % 256, u / 65536 % 256, u / 256 % 256, u % 256] ++ [(h + 60) % 256, (mi + 60) % 256, (s + 60) % 256]) ++ [v / 16777216 % 256, v / 65536 % 256, v / 256 % 256, v % 256]) - 2147483648 = d := by
      rw [List.append_assoc, be_of u (by omega)]; omega
    have q2 : be4 ((([u / 16777216 % 256, u / 65536 % 256, u / 256 % 256, u % 256] ++ [(h + 60) % 256, (mi + 60) % 256, (s + 60) % 256]) ++ [v / 16777216 % 256, v / 65536 % 256, v / 256 % 256, v % 256]).drop 7) - 2147483648 = n := by
      show be4 [v / 16777216 % 256, v / 65536 % 256, v / 256 % 256, v % 256] - 2147483648 = n
      have := be_of v (by omega) []
      rw [List.append_nil] at this
      rw [this]; omega
    rw [q1, q2]
    have q3 : ∀ z : Int, 0 ≤ z → z < 60 → ((z + 60) % 256 - 60) % 256 = z := by intro z _ _; omega
    show txt 43 (zz d 2) (zz (((h + 60) % 256 - 60) % 256) 2) (zz (((mi + 60) % 256 - 60) % 256) 2) (zz (((s + 60) % 256 - 60) % 256) 2) (zz (Int.tdiv n 1000) 6) = _
    rw [q3 h h0 (by omega), q3 mi m0 m1, q3 s s0 s1, Int.tdiv_eq_ediv_of_nonneg n0]
    rfl
  | true =>
    have dm' := dm rfl
    clear dm
    unfold spec_IntervalDays.f spec_dateFour.f
    rw [if_pos rfl]
    simp only [Option.bind_some]
    rw [wrap_id (-d) (by omega), wrap_id (-h) (by omega), wrap_id (-mi) (by omega), wrap_id (-s) (by omega), wrap_id (-n) (by omega), wrap_id (-h + 60) (by omega), wrap_id (-mi + 60) (by omega), wrap_id (-s + 60) (by omega)]
    obtain ⟨u, hu⟩ : ∃ u, u = (-d % 4294967296 + 2147483648) % 4294967296 := ⟨_, rfl⟩
    obtain ⟨v, hv⟩ : ∃ v, v = (-n % 4294967296 + 2147483648) % 4294967296 := ⟨_, rfl⟩
    rw [← hu, ← hv]
    have eu : u = 2147483648 - d := by omega
    have ev : v = 2147483648 - n := by omega
    clear hu hv
    simp only [List.length_append, List.length_cons, List.length_nil]
    rw [if_pos (by omega), if_pos (by omega)]
    refine ⟨_, rfl, ?_⟩
    unfold impl_IntervalDays.f
    rw [if_neg (by simp), clone_f _ (by simp)]
    simp only [Option.bind_some]
    rw [ds_neg _ (by simp) (by intro z hz; simp at hz; omega) (by rw [List.append_assoc, be_of u (by omega)]; omega)]
    simp only [Option.bind_some]
    congr 1
    have q1 : 2147483648 - be4 (([u / 16777216 % 256, u / 65536 % 256, u / 256 % 256, u % 256] ++ [(-h + 60) % 256, (-mi + 60) % 256, (-s + 60) % 256]) ++ [v / 16777216 % 256, v / 65536 % 256, v / 256 % 256, v % 256]) = d := by
      rw [List.append_assoc, be_of u (by omega)]; omega
    have q2 : 2147483648 - be4 ((([u / 16777216 % 256, u / 65536 % 256, u / 256 % 256, u % 256] ++ [(-h + 60) % 256, (-mi + 60) % 256, (-s + 60) % 256]) ++ [v / 16777216 % 256, v / 65536 % 256, v / 256 % 256, v % 256]).drop 7) = n := by
      show 2147483648 - be4 [v / 16777216 % 256, v / 65536 % 256, v / 256 % 256, v % 256] = n
      have := be_of v (by omega) []
      rw [List.append_nil] at this
      rw [this]; omega
    rw [q1, q2]
    have q3 : ∀ z : Int, 0 ≤ z → z < 60 → (60 - (-z + 60) % 256) % 256 = z := by intro z _ _; omega
    show txt 45 (zz d 2) (zz ((60 - (-h + 60) % 256) % 256) 2) (zz ((60 - (-mi + 60) % 256) % 256) 2) (zz ((60 - (-s + 60) % 256) % 256) 2) (zz (Int.tdiv n 1000) 6) = _
    rw [q3 h h0 (by omega), q3 mi m0 m1, q3 s s0 s1, Int.tdiv_eq_ediv_of_nonneg n0]
    rfl

theorem FnIntervalCut (a0_0 : Bool) (a0_1 a0_2 a0_3 a0_4 a0_5 a0_6 a0_7 : Int) (w1 : (Lit.int .i64 a0_1).wf = true) (w2 : (Lit.int .i64 a0_2).wf = true) (w3 : (Lit.int .i64 a0_3).wf = true) (w4 : (Lit.int .i64 a0_4).wf = true) (w5 : (Lit.int .i64 a0_5).wf = true) (w6 : (Lit.int .i64 a0_6).wf = true) (w7 : (Lit.int .i64 a0_7).wf = true)
    (a1 : Int) (wa : (Lit.int .u16 a1).wf = true) : ∃ k, laws_FnIntervalCut.f k a0_0 a0_1 a0_2 a0_3 a0_4 a0_5 a0_6 a0_7 a1 = some true := by
  have ha : 0 ≤ a1 ∧ a1 ≤ 65535 := rng wa
  refine ⟨21, ?_⟩
  unfold laws_FnIntervalCut.f
  obtain ⟨b1, hb1⟩ := right_total a0_0 a0_1 a0_2 a0_3 a0_4 a0_5 a0_6 a0_7
  rw [hb1]
  simp only [Option.bind_some]
  cases b1 with
  | false =>
    simp only [Bool.false_eq_true, if_false, laws_FnIntervalCut.j0, if_true]
    rw [live]
    rfl
  | true =>
    have R := right_of _ _ _ _ _ _ _ _ hb1
    simp only [if_true]
    obtain ⟨z, hz⟩ : ∃ z, z = wrap64 (wrap64 (wrap64 (Int.tdiv a0_5 1000) * 1000) + wrap64 (Int.tmod a1 1000)) := ⟨_, rfl⟩
    rw [← hz]
    obtain ⟨b2, hb2⟩ := right_total a0_0 a0_1 a0_2 a0_3 a0_4 z a0_6 a0_7
    rw [hb2]
    simp only [Option.bind_some, laws_FnIntervalCut.j0]
    cases b2 with
    | false =>
      simp only [Bool.not_false, if_true]
      rw [live]
      rfl
    | true =>
      have R2 := right_of _ _ _ _ _ _ _ _ hb2
      simp only [Bool.not_true, Bool.false_eq_true, if_false]
      obtain ⟨l1, e1, t1⟩ := days_text a0_0 a0_1 a0_2 a0_3 a0_4 a0_5 a0_6 a0_7 R
      obtain ⟨l2, e2, t2⟩ := days_text a0_0 a0_1 a0_2 a0_3 a0_4 z a0_6 a0_7 R2
      have n0 := R.n0
      have n1 := R.n1
      have hzz : z / 1000 = a0_5 / 1000 := by
        rw [hz, Int.tdiv_eq_ediv_of_nonneg n0, Int.tmod_eq_emod_of_nonneg (by omega), wrap_id (a0_5 / 1000) (by omega), wrap_id (a1 % 1000) (by omega), wrap_id (a0_5 / 1000 * 1000) (by omega), wrap_id _ (by omega)]
        omega
      rw [e1]
      simp only [Option.bind_some]
      rw [t1]
      simp only [Option.bind_some]
      rw [e2]
      simp only [Option.bind_some]
      rw [t2]
      simp only [Option.bind_some]
      rw [hzz, if_pos rfl, live]
      rfl

theorem txt_size (s : UInt8) (a b c d e : ByteArray) : 4 ≤ (txt s a b c d e).size := by
  unfold txt
  simp only [ByteArray.size_append, ba_size_mk, List.size_toArray, List.length_cons, List.length_nil]
  omega
theorem txt_data (s : UInt8) (a b c d e : ByteArray) : (txt s a b c d e).data.toList = s :: (a.data.toList ++ [32] ++ b.data.toList ++ [58] ++ c.data.toList ++ [58] ++ d.data.toList ++ [46] ++ e.data.toList) := by
  unfold txt
  simp [ByteArray.data_append]
theorem bt_first (t : ByteArray) (s : UInt8) (r : List UInt8) (h : t.data.toList = s :: r) : bt t 0 = (s.toNat : Int) := by
  have hs : t.size = r.length + 1 := by
    show t.data.size = _
    rw [← Array.length_toList, h, List.length_cons]
  unfold bt
  rw [dif_pos (by rw [hs]; simp)]
  have : t[(0 : Int).toNat]'(by rw [hs]; simp) = t.data.toList[0]'(by rw [h]; simp) := by
    rw [Array.getElem_toList]; rfl
  rw [this]
  simp only [h, List.getElem_cons_zero]

theorem FnIntervalSign (a0_0 : Bool) (a0_1 a0_2 a0_3 a0_4 a0_5 a0_6 a0_7 : Int) (w1 : (Lit.int .i64 a0_1).wf = true) (w2 : (Lit.int .i64 a0_2).wf = true) (w3 : (Lit.int .i64 a0_3).wf = true) (w4 : (Lit.int .i64 a0_4).wf = true) (w5 : (Lit.int .i64 a0_5).wf = true) (w6 : (Lit.int .i64 a0_6).wf = true) (w7 : (Lit.int .i64 a0_7).wf = true) :
    ∃ k, laws_FnIntervalSign.f k a0_0 a0_1 a0_2 a0_3 a0_4 a0_5 a0_6 a0_7 = some true := by
  refine ⟨21, ?_⟩
  unfold laws_FnIntervalSign.f
  obtain ⟨b1, hb1⟩ := right_total false a0_1 a0_2 a0_3 a0_4 a0_5 a0_6 a0_7
  rw [hb1]
  simp only [Option.bind_some]
  cases b1 with
  | false =>
    simp only [Bool.false_eq_true, if_false, laws_FnIntervalSign.j0, if_true]
    rw [live]
    rfl
  | true =>
    have R := right_of _ _ _ _ _ _ _ _ hb1
    simp only [if_true]
    obtain ⟨b2, hb2⟩ := right_total true a0_1 a0_2 a0_3 a0_4 a0_5 a0_6 a0_7
    rw [hb2]
    simp only [Option.bind_some, laws_FnIntervalSign.j0]
    cases b2 with
    | false =>
      simp only [Bool.not_false, if_true]
      rw [live]
      rfl
    | true =>
      have R2 := right_of _ _ _ _ _ _ _ _ hb2
      simp only [Bool.not_true, Bool.false_eq_true, if_false]
      obtain ⟨l1, e1, t1⟩ := days_text false a0_1 a0_2 a0_3 a0_4 a0_5 a0_6 a0_7 R
      obtain ⟨l2, e2, t2⟩ := days_text true a0_1 a0_2 a0_3 a0_4 a0_5 a0_6 a0_7 R2
      rw [e1]
      simp only [Option.bind_some]
      rw [t1]
      simp only [Option.bind_some]
      rw [e2]
      simp only [Option.bind_some]
      rw [t2]
      simp only [Option.bind_some, Bool.false_eq_true, if_false, if_true]
      have k1 := txt_size 43 (zz a0_1 2) (zz a0_2 2) (zz a0_3 2) (zz a0_4 2) (zz (a0_5 / 1000) 6)
      have k2 := txt_size 45 (zz a0_1 2) (zz a0_2 2) (zz a0_3 2) (zz a0_4 2) (zz (a0_5 / 1000) 6)
      have d1 := txt_data 43 (zz a0_1 2) (zz a0_2 2) (zz a0_3 2) (zz a0_4 2) (zz (a0_5 / 1000) 6)
      have d2 := txt_data 45 (zz a0_1 2) (zz a0_2 2) (zz a0_3 2) (zz a0_4 2) (zz (a0_5 / 1000) 6)
      generalize txt 43 (zz a0_1 2) (zz a0_2 2) (zz a0_3 2) (zz a0_4 2) (zz (a0_5 / 1000) 6) = p at *
      generalize txt 45 (zz a0_1 2) (zz a0_2 2) (zz a0_3 2) (zz a0_4 2) (zz (a0_5 / 1000) 6) = q at *
      have hpq : (p.extract 1 p.size).toList = (q.extract 1 q.size).toList := by
        have f1 : (p.extract 1 p.size).toList = p.data.toList.drop 1 := by
          rw [ByteArray.toList_eq, ByteArray.data_extract, Array.toList_extract, List.extract_eq_take_drop]
          exact List.take_of_length_le (by rw [List.length_drop, Array.length_toList]; exact Nat.le_refl _)
        have f2 : (q.extract 1 q.size).toList = q.data.toList.drop 1 := by
          rw [ByteArray.toList_eq, ByteArray.data_extract, Array.toList_extract, List.extract_eq_take_drop]
          exact List.take_of_length_le (by rw [List.length_drop, Array.length_toList]; exact Nat.le_refl _)
        rw [f1, f2, d1, d2]
        rfl
      rw [if_pos (by omega), if_pos (by omega), if_pos (by omega), if_pos (by rw [bt_first p _ _ d1]; rfl), if_pos (by omega), if_pos (by rw [bt_first q _ _ d2]; rfl), if_pos (by omega), if_pos (by omega), if_pos hpq, live]
      rfl
end Go.Proofs.YtinggdcfhlbahaaDoor.Pure
