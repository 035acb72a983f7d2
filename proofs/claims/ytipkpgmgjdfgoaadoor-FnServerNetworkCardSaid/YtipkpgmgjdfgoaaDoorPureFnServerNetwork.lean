/- The pure law of FnServerNetwork: the address of a server is its host, in brackets, if it has a colon, and its port. -/
import Derived.Test.YtipkpgmgjdfgoaaDoorZE
import Derived.Lib.ItoaLen
namespace Go.Proofs.YtipkpgmgjdfgoaaDoor.Pure
open Go Go.RowKit Go.Proofs.YtipkpgmgjdfgoaaDoor Go.Proofs.YtipkpgmgjdfgoaaDoor.X Go.Proofs.YtipkpgmgjdfgoaaDoor.ZE Go.Proofs.YtipkpgmgjdfgoaaDoorW.PrintWords Go.Proofs.YtipkpgmgjdfgoaaDoorW.PrintLast
set_option linter.unusedVariables false
set_option linter.unusedSimpArgs false
theorem index_mem (c : UInt8) : ∀ l : List UInt8, 0 ≤ Lib.indexByte l c ↔ c ∈ l
  | [] => by simp [Lib.indexByte]
  | b :: l => by
    have ih := index_mem c l
    have hg := Lib.indexByte_ge l c
    have hu : Lib.indexByte (b :: l) c = if b == c then 0 else if Lib.indexByte l c == -1 then -1 else Lib.indexByte l c + 1 := rfl
    rw [List.mem_cons, ← ih, hu]
    clear hu
    by_cases h : b = c
    · simp [h]
    · have h' : (b == c) = false := beq_eq_false_iff_ne.2 h
      have h'' : ¬ c = b := fun e => h e.symm
      rw [h']
      simp only [Bool.false_eq_true, if_false, h'', false_or]
      by_cases h2 : Lib.indexByte l c = -1
      · simp [h2]
      · have : (Lib.indexByte l c == -1) = false := beq_eq_false_iff_ne.2 h2
        rw [this]
        simp only [Bool.false_eq_true, if_false]
        omega
theorem mem_bytes (s : ByteArray) : (58 : Int) ∈ bytesOf s ↔ (58 : UInt8) ∈ s.data.toList := by
  unfold bytesOf
  rw [List.mem_map]
  constructor
  · rintro ⟨b, hb, e⟩
    have : b = 58 := by rw [← UInt8.toNat_inj]; have : b.toNat = 58 := by omega
                        rw [this]; rfl
    rw [← this]; exact hb
  · intro h; exact ⟨58, h, rfl⟩
theorem awake : laws_configAwake.f = some true := by decide +kernel
theorem short_f (k : Nat) (s : ByteArray) : laws_configShort.f (k + 2) [s] = some (decide (s.size ≤ 300)) := by
  unfold laws_configShort.f
  have e : rdOf ByteArray.empty [s] 0 = s := rfl
  have w1 : wrap64 (0 + 1) = 1 := by unfold wrap64; omega
  have hl : (([s] : List ByteArray).length : Int) = 1 := rfl
  simp only [laws_configShort.l0, hl, e, w1]
  by_cases h : s.size ≤ 300
  · have h' : ¬ ((s.size : Int) > 300) := by omega
    simp [h, h']
  · have h' : (s.size : Int) > 300 := by omega
    simp [h, h']
theorem both (p a : ByteArray) (n : Int) (ha : a.size ≤ 300) (h0 : -9223372036854775808 ≤ n) (h1 : n ≤ 9223372036854775807) : ∃ r, impl_Network.f p a n = some r ∧ spec_Network.f p a n = some r := by
  have hit : strconv_Itoa.f n = some ⟨(Lib.itoa n).toArray⟩ := by unfold strconv_Itoa.f; rw [if_pos ⟨h0, h1⟩]
  have hl := Lib.itoa_length_le n h0 h1
  have hz : (⟨(Lib.itoa n).toArray⟩ : ByteArray).size ≤ 1099511627776 := by show (Lib.itoa n).toArray.size ≤ _; simp; omega
  generalize (⟨(Lib.itoa n).toArray⟩ : ByteArray) = t at *
  unfold impl_Network.f spec_Network.f
  rw [hit, if_pos (by omega)]
  simp only [Option.bind_some]
  unfold net_JoinHostPort.f
  rw [if_pos ⟨by omega, hz⟩, if_pos hz]
  refine ⟨_, rfl, ?_⟩
  by_cases hm : (58 : UInt8) ∈ a.data.toList
  · rw [if_pos ((mem_bytes a).2 hm), if_pos ((index_mem 58 _).2 hm)]
    congr 1
    rw [ByteArray.append_assoc (a := ⟨#[91]⟩ ++ a)]
    rfl
  · rw [if_neg (fun h => hm ((mem_bytes a).1 h)), if_neg (fun h => hm ((index_mem 58 _).1 h))]
theorem FnServerNetwork (a0 a1 : ByteArray) (a2 : Int) (w0 : (a0.size : Int) ≤ IntKind.i64.max) (w1 : (a1.size : Int) ≤ IntKind.i64.max) (w2 : (Lit.int .i64 a2).wf = true) : ∃ k, laws_FnServerNetwork.f k a0 a1 a2 = some true := by
  have hw : -9223372036854775808 ≤ a2 ∧ a2 ≤ 9223372036854775807 := by
    simp only [Lit.wf, Bool.and_eq_true, decide_eq_true_eq] at w2
    exact w2
  refine ⟨2, ?_⟩
  unfold laws_FnServerNetwork.f laws_zzFits1.f
  by_cases h0 : (a0.size : Int) > 2147483647
  · rw [if_pos h0]; rfl
  rw [if_neg h0]
  by_cases h1 : (a1.size : Int) > 2147483647
  · rw [if_pos h1]; rfl
  rw [if_neg h1, Option.bind_some, if_pos rfl, short_f 0 a1, Option.bind_some]
  by_cases h2 : a1.size ≤ 300
  · rw [decide_eq_true h2, if_pos rfl]
    obtain ⟨r, e1, e2⟩ := both a0 a1 a2 h2 hw.1 hw.2
    rw [e1, e2, Option.bind_some, Option.bind_some, if_pos rfl, awake]
    rfl
  · rw [decide_eq_false h2, if_neg (by decide), awake]
    rfl
end Go.Proofs.YtipkpgmgjdfgoaaDoor.Pure
