/- What goora.zzIndex, zzSplit and zzTrimRight compute, in plain lists of bytes. -/
import Derived.Test.YtipkpgmgjdfgoaaDoorZU
import Derived.Lib.Bytealg
namespace Go.Proofs.YtipkpgmgjdfgoaaDoor.X
open Go.RowKit Go.Proofs.YtipkpgmgjdfgoaaDoorW.PrintWords Go.Proofs.YtipkpgmgjdfgoaaDoorW.PrintMore
set_option linter.unusedVariables false
set_option linter.unusedSimpArgs false
namespace Url
def mkB (l : List UInt8) : ByteArray := ⟨l.toArray⟩
theorem mkB_size (l : List UInt8) : (mkB l).size = l.length := by show l.toArray.size = _; simp
theorem mkB_list (l : List UInt8) : (mkB l).toList = l := by rw [Go.ByteArray.toList_eq]; simp [mkB]
theorem mkB_data (s : ByteArray) : mkB s.data.toList = s := by apply ByteArray.ext; simp [mkB]
theorem data_mkB (l : List UInt8) : (mkB l).data.toList = l := by simp [mkB]
theorem mkB_app (a b : List UInt8) : mkB (a ++ b) = mkB a ++ mkB b := by apply ByteArray.ext; simp [mkB]
theorem mkB_extract (l : List UInt8) (a b : Nat) : (mkB l).extract a b = mkB ((l.drop a).take (b - a)) := by
  apply ByteArray.ext
  apply Array.ext'
  rw [ByteArray.data_extract, Array.toList_extract]
  simp [mkB, List.extract_eq_take_drop]
theorem bt_mkB (l : List UInt8) (i : Nat) (h : i < l.length) : bt (mkB l) (i : Int) = ((l[i]).toNat : Int) := by
  unfold bt
  rw [dif_pos (by rw [Int.toNat_natCast, mkB_size]; exact h)]
  simp [mkB, ByteArray.get, Int.toNat_natCast]
  rfl
/-- The parts between commas. -/
def splitL : List UInt8 → List (List UInt8)
  | [] => [[]]
  | c :: r => if c = 44 then [] :: splitL r else match splitL r with | [] => [[c]] | h :: t => (c :: h) :: t
theorem splitL_ne : ∀ l, splitL l ≠ []
  | [] => by simp [splitL]
  | c :: r => by
    unfold splitL
    split
    · simp
    · split <;> simp
theorem splitL_cut : ∀ (a r : List UInt8), (∀ c ∈ a, c ≠ 44) → splitL (a ++ 44 :: r) = a :: splitL r
  | [], r, _ => by simp [splitL]
  | c :: a, r, h => by
    rw [List.cons_append, splitL, if_neg (h c (by simp)), splitL_cut a r (fun x hx => h x (by simp [hx]))]
theorem splitL_one : ∀ a : List UInt8, (∀ c ∈ a, c ≠ 44) → splitL a = [a]
  | [], _ => rfl
  | c :: a, h => by rw [splitL, if_neg (h c (by simp)), splitL_one a (fun x hx => h x (by simp [hx]))]
theorem idx_none : ∀ l : List UInt8, Lib.indexByte l 44 = -1 → ∀ c ∈ l, c ≠ 44
  | [], _, c, hc => by simp at hc
  | b :: l, h, c, hc => by
    have hu : Lib.indexByte (b :: l) 44 = if b == 44 then 0 else if Lib.indexByte l 44 == -1 then -1 else Lib.indexByte l 44 + 1 := rfl
    have hg := Lib.indexByte_ge l 44
    rw [hu] at h
    by_cases hb : b = 44
    · rw [beq_iff_eq.2 hb] at h; simp at h
    · rw [beq_eq_false_iff_ne.2 hb] at h
      simp only [Bool.false_eq_true, if_false] at h
      by_cases h2 : Lib.indexByte l 44 = -1
      · rcases List.mem_cons.1 hc with e | e
        · rw [e]; exact hb
        · exact idx_none l h2 c e
      · rw [beq_eq_false_iff_ne.2 h2] at h
        simp only [Bool.false_eq_true, if_false] at h
        omega
theorem idx_some : ∀ (l : List UInt8) (j : Nat), Lib.indexByte l 44 = (j : Int) → j < l.length ∧ l = l.take j ++ 44 :: l.drop (j + 1) ∧ ∀ c ∈ l.take j, c ≠ 44
  | [], j, h => by have h' : (-1 : Int) = j := h; omega
  | b :: l, j, h => by
    have hu : Lib.indexByte (b :: l) 44 = if b == 44 then 0 else if Lib.indexByte l 44 == -1 then -1 else Lib.indexByte l 44 + 1 := rfl
    rw [hu] at h
    by_cases hb : b = 44
    · rw [beq_iff_eq.2 hb] at h
      simp only [if_true] at h
      obtain rfl : j = 0 := by omega
      subst hb
      simp
    · rw [beq_eq_false_iff_ne.2 hb] at h
      simp only [Bool.false_eq_true, if_false] at h
      by_cases h2 : Lib.indexByte l 44 = -1
      · rw [beq_iff_eq.2 h2] at h
        simp only [if_true] at h
        omega
      · rw [beq_eq_false_iff_ne.2 h2] at h
        simp only [Bool.false_eq_true, if_false] at h
        have hg := Lib.indexByte_ge l 44
        obtain ⟨q, rfl⟩ : ∃ q, j = q + 1 := ⟨j - 1, by omega⟩
        obtain ⟨r1, r2, r3⟩ := idx_some l q (by omega)
        refine ⟨by simp; omega, ?_, ?_⟩
        · simp only [List.take_succ_cons, List.drop_succ_cons, List.cons_append]
          rw [← r2]
        · intro c hc
          rw [List.take_succ_cons] at hc
          rcases List.mem_cons.1 hc with e | e
          · rw [e]; exact hb
          · exact r3 c e
theorem zzIndex_eq (l : List UInt8) (hl : l.length ≤ 1099511627776) : ∀ (k i : Nat), i ≤ l.length → l.length - i < k → ZU.goora_zzIndex.l0 k (mkB l) ⟨#[44]⟩ (i : Int) = some (if Lib.indexByte (l.drop i) 44 = -1 then -1 else (i : Int) + Lib.indexByte (l.drop i) 44) := by
  intro k
  induction k with
  | zero => intro i _ h; omega
  | succ k ih =>
    intro i hi hk
    have e1 : ((⟨#[44]⟩ : ByteArray).size : Int) = 1 := rfl
    have e2 : wrap64 ((i : Int) + 1) = ((i + 1 : Nat) : Int) := by unfold wrap64; omega
    simp only [ZU.goora_zzIndex.l0, e1, e2, mkB_size]
    by_cases hlt : i < l.length
    · rw [if_pos (by omega), if_pos (by omega), if_pos (by omega)]
      have hd : l.drop i = l[i] :: l.drop (i + 1) := List.drop_eq_getElem_cons hlt
      have hx : ((mkB l).extract ((i : Int).toNat) (((i + 1 : Nat) : Int).toNat)).toList = [l[i]] := by
        rw [Int.toNat_natCast, Int.toNat_natCast, mkB_extract, mkB_list, hd, show i + 1 - i = 1 by omega]
        rfl
      rw [hx]
      have e3 : (⟨#[44]⟩ : ByteArray).toList = [44] := by rw [Go.ByteArray.toList_eq]
      rw [e3]
      have hu : Lib.indexByte (l[i] :: l.drop (i + 1)) 44 = if l[i] == 44 then 0 else if Lib.indexByte (l.drop (i + 1)) 44 == -1 then -1 else Lib.indexByte (l.drop (i + 1)) 44 + 1 := rfl
      rw [hd, hu]
      by_cases hb : l[i] = 44
      · rw [if_pos (by rw [hb]), beq_iff_eq.2 hb]
        simp
      · rw [if_neg (by intro e; injection e with e; exact hb e), ih (i + 1) (by omega) (by omega), beq_eq_false_iff_ne.2 hb]
        have hg := Lib.indexByte_ge (l.drop (i + 1)) 44
        by_cases h2 : Lib.indexByte (l.drop (i + 1)) 44 = -1
        · rw [if_pos h2, beq_iff_eq.2 h2]; simp
        · rw [if_neg h2, beq_eq_false_iff_ne.2 h2]
          simp only [Bool.false_eq_true, if_false]
          rw [if_neg (by omega)]
          congr 1
          omega
    · rw [if_neg (by omega), List.drop_eq_nil_of_le (by omega)]
      rfl
theorem zzSplit_eq : ∀ (n : Nat) (l : List UInt8), l.length = n → n ≤ 1099511627776 → ∀ (k : Nat) (acc : List ByteArray), n + 3 ≤ k → acc.length + n < 8796093022208 →
    ZU.goora_zzSplit.l0 k (mkB l) ⟨#[44]⟩ acc = some (acc ++ (splitL l).map mkB) := by
  intro n
  induction n using Nat.strongRecOn with
  | _ n ih =>
    intro l hln hn k acc hk hacc
    obtain ⟨k, rfl⟩ : ∃ m, k = m + 1 := ⟨k - 1, by omega⟩
    simp only [ZU.goora_zzSplit.l0]
    have hi : ZU.goora_zzIndex.f k (mkB l) ⟨#[44]⟩ = some (Lib.indexByte l 44) := by
      unfold ZU.goora_zzIndex.f
      have := zzIndex_eq l (by omega) k 0 (by omega) (by omega)
      rw [show ((0 : Nat) : Int) = 0 from rfl] at this
      rw [this, List.drop_zero]
      by_cases h : Lib.indexByte l 44 = -1
      · rw [if_pos h, h]
      · rw [if_neg h, Int.zero_add]
    rw [hi, Option.bind_some]
    have hg := Lib.indexByte_ge l 44
    by_cases h : Lib.indexByte l 44 = -1
    · rw [if_pos (by omega), if_pos (by omega), splitL_one l (idx_none l h)]
      rfl
    · obtain ⟨j, hj⟩ : ∃ j : Nat, Lib.indexByte l 44 = (j : Int) := ⟨(Lib.indexByte l 44).toNat, by omega⟩
      obtain ⟨r1, r2, r3⟩ := idx_some l j hj
      have e1 : ((⟨#[44]⟩ : ByteArray).size : Int) = 1 := rfl
      have e2 : wrap64 ((j : Int) + 1) = ((j + 1 : Nat) : Int) := by unfold wrap64; omega
      rw [hj, e1, e2]
      simp only [mkB_size]
      rw [if_neg (by omega), if_pos (by omega), if_pos (by omega), if_pos (by omega), if_pos (by omega), if_pos (by omega)]
      rw [Int.toNat_natCast, Int.toNat_natCast, mkB_extract, mkB_extract]
      have e3 : (l.drop (j + 1)).take (l.length - (j + 1)) = l.drop (j + 1) := List.take_of_length_le (by rw [List.length_drop]; omega)
      rw [e3, ih (l.drop (j + 1)).length (by rw [List.length_drop]; omega) _ rfl (by rw [List.length_drop]; omega) k _ (by rw [List.length_drop]; omega) (by rw [List.length_append, List.length_drop]; simp; omega)]
      have e4 : splitL l = l.take j :: splitL (l.drop (j + 1)) := (congrArg splitL r2).trans (splitL_cut _ _ r3)
      rw [e4]
      simp
theorem zzSplit_f (s : ByteArray) (h : s.size ≤ 1099511627776) : ∃ k, ZU.goora_zzSplit.f k s ⟨#[44]⟩ = some ((splitL s.data.toList).map mkB) := by
  refine ⟨s.data.toList.length + 3, ?_⟩
  unfold ZU.goora_zzSplit.f
  rw [if_neg (by decide)]
  have := zzSplit_eq s.data.toList.length s.data.toList rfl (by rw [data_length]; omega) (s.data.toList.length + 3) [] (by omega) (by simp [data_length]; omega)
  rw [mkB_data] at this
  exact this
/-- One sign '&' at the end is cut off. -/
theorem zzTrim_one (a : List UInt8) (h0 : 0 < a.length) (hm : a.length ≤ 1099511627776) (hl : a[a.length - 1]'(by omega) ≠ 38) : ∃ k, ZU.goora_zzTrimRight.f k (mkB (a ++ [38])) ⟨#[38]⟩ = some (mkB a) := by
  refine ⟨7, ?_⟩
  unfold ZU.goora_zzTrimRight.f
  have hs : ((mkB (a ++ [38])).size : Int) = ((a.length + 1 : Nat) : Int) := by rw [mkB_size]; simp
  have e1 : ((⟨#[38]⟩ : ByteArray).size : Int) = 1 := rfl
  have b0 : bt (⟨#[38]⟩ : ByteArray) 0 = 38 := rfl
  have w1 : wrap64 (((a.length + 1 : Nat) : Int) - 1) = (a.length : Int) := by unfold wrap64; omega
  have w2 : wrap64 ((a.length : Int) - 1) = ((a.length - 1 : Nat) : Int) := by unfold wrap64; omega
  have w3 : wrap64 (0 + 1) = 1 := by unfold wrap64; omega
  have b1 : bt (mkB (a ++ [38])) (a.length : Int) = 38 := by rw [bt_mkB _ _ (by simp)]; simp
  have b2 : ¬ (38 : Int) = bt (mkB (a ++ [38])) ((a.length - 1 : Nat) : Int) := by
    rw [bt_mkB _ _ (by simp; omega), List.getElem_append_left (by omega)]
    intro e
    apply hl
    rw [← UInt8.toNat_inj]
    have : (a[a.length - 1]'(by omega)).toNat = 38 := by omega
    rw [this]; rfl
  have hx : (mkB (a ++ [38])).extract 0 ((a.length : Int).toNat) = mkB a := by
    rw [Int.toNat_natCast, mkB_extract]
    simp
  rw [hs]
  have s0 : ∀ k, ZU.goora_zzTrimRight.l1 (k + 1) (mkB (a ++ [38])) ⟨#[38]⟩ (a.length : Int) false 1 = some (mkB a) := fun k => by
    rw [ZU.goora_zzTrimRight.l1, e1, hs, if_neg (by omega), if_neg (by decide), if_pos (by omega), if_pos (by omega), hx]
  have s1 : ∀ k, ZU.goora_zzTrimRight.l1 (k + 2) (mkB (a ++ [38])) ⟨#[38]⟩ (a.length : Int) false 0 = some (mkB a) := fun k => by
    rw [ZU.goora_zzTrimRight.l1, e1, hs, w2, b0, w3, if_pos (by omega), if_pos (by omega), if_pos (by omega), if_pos (by omega), if_neg b2]
    exact s0 k
  have s2 : ∀ k, ZU.goora_zzTrimRight.l0 (k + 3) (mkB (a ++ [38])) ⟨#[38]⟩ (a.length : Int) = some (mkB a) := fun k => by
    rw [ZU.goora_zzTrimRight.l0, if_pos (by omega)]
    exact s1 k
  have s3 : ∀ k, ZU.goora_zzTrimRight.l1 (k + 4) (mkB (a ++ [38])) ⟨#[38]⟩ ((a.length + 1 : Nat) : Int) true 1 = some (mkB a) := fun k => by
    rw [ZU.goora_zzTrimRight.l1, e1, hs, w1, if_neg (by omega), if_pos rfl]
    exact s2 k
  have s4 : ∀ k, ZU.goora_zzTrimRight.l1 (k + 5) (mkB (a ++ [38])) ⟨#[38]⟩ ((a.length + 1 : Nat) : Int) false 0 = some (mkB a) := fun k => by
    rw [ZU.goora_zzTrimRight.l1, e1, hs, w1, b0, w3, b1, if_pos (by omega), if_pos (by omega), if_pos (by omega), if_pos (by omega), if_pos rfl]
    exact s3 k
  show ZU.goora_zzTrimRight.l0 (6 + 1) _ _ _ = _
  rw [ZU.goora_zzTrimRight.l0, if_pos (by omega)]
  exact s4 1
end Url
end Go.Proofs.YtipkpgmgjdfgoaaDoor.X
