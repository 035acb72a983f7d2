/- The pure law of FnPrivilege: the number of a privilege is that of its name, in letters of any case. -/
import Derived.Test.YtipkpgmgjdfgoaaDoorZD
namespace Go.Proofs.YtipkpgmgjdfgoaaDoor.Pure
open Go Go.RowKit Go.Proofs.YtipkpgmgjdfgoaaDoor Go.Proofs.YtipkpgmgjdfgoaaDoor.X Go.Proofs.YtipkpgmgjdfgoaaDoor.ZD Go.Proofs.YtipkpgmgjdfgoaaDoorW.PrintWords Go.Proofs.YtipkpgmgjdfgoaaDoorW.PrintLast
set_option linter.unusedVariables false
set_option linter.unusedSimpArgs false
def lowB (b : UInt8) : UInt8 := UInt8.ofNat (lowc (b.toNat : Int)).toNat
theorem up_low0 : ∀ n : Fin 26, ∀ b : Fin 256, (lowB (UInt8.ofNat (65 + n.val)) = lowB (UInt8.ofNat b.val)) ↔ (Lib.upperB (UInt8.ofNat b.val) = UInt8.ofNat (65 + n.val)) := by decide +kernel
theorem up_low (c b : UInt8) (h : 65 ≤ c.toNat ∧ c.toNat ≤ 90) : lowB c = lowB b ↔ Lib.upperB b = c := by
  have := up_low0 ⟨c.toNat - 65, by omega⟩ ⟨b.toNat, b.toNat_lt⟩
  simp only [show 65 + (c.toNat - 65) = c.toNat by omega, UInt8.ofNat_toNat] at this
  exact this
theorem low_iff : ∀ N s : List UInt8, (∀ c ∈ N, 65 ≤ c.toNat ∧ c.toNat ≤ 90) → (N.map lowB = s.map lowB ↔ Lib.toUpperA s = N)
  | [], [], _ => by simp [Lib.toUpperA]
  | [], _ :: _, _ => by simp [Lib.toUpperA]
  | _ :: _, [], _ => by simp [Lib.toUpperA]
  | c :: N, b :: s, h => by
    have h1 := up_low c b (h c (by simp))
    have h2 := low_iff N s (fun x hx => h x (by simp [hx]))
    simp only [Lib.toUpperA, List.map_cons, List.cons.injEq] at h2 ⊢
    rw [h1, h2]
theorem low_str (s : ByteArray) : (strOfNums ((bytesOf s).map lowc)).toList = s.data.toList.map lowB := by
  rw [Go.ByteArray.toList_eq]
  unfold strOfNums bytesOf lowB
  simp
theorem awake : laws_configAwake.f = some true := by decide +kernel
theorem low_f (s : ByteArray) (hs : s.size ≤ 300) : spec_configLow.f s = some (strOfNums ((bytesOf s).map lowc)) := by
  unfold spec_configLow.f
  rw [if_pos (by omega)]
/-- The text in great letters. -/
def up (s : ByteArray) : List UInt8 := Lib.toUpperA s.data.toList
theorem num_step (k : Nat) (s : ByteArray) (nums : List Int) (names : List ByteArray) (n i : Int) (h0 : 0 ≤ i) (h1 : i < n) (h2 : n = names.length) (h3 : names.length = nums.length) (hn : n ≤ 100)
    (x : ByteArray) (hx : rdOf ByteArray.empty names i = x) (hxs : x.size ≤ 300) (hu : ∀ c ∈ x.data.toList, 65 ≤ c.toNat ∧ c.toNat ≤ 90) (hs : s.size ≤ 300) :
    spec_PrivilegeNumber.l0 (k + 1) s nums names n i = if up s = x.data.toList then some (rd nums i) else spec_PrivilegeNumber.l0 k s nums names n (i + 1) := by
  simp only [spec_PrivilegeNumber.l0]
  rw [if_pos h1, if_pos h0, if_pos (by omega), hx, low_f x hxs, Option.bind_some, low_f s hs, Option.bind_some, low_str, low_str]
  rw [show wrap64 (i + 1) = i + 1 from by unfold wrap64; omega]
  have := low_iff x.data.toList s.data.toList hu
  by_cases h : up s = x.data.toList
  · rw [if_pos (this.2 h), if_pos h, if_pos (by omega)]
  · rw [if_neg (fun e => h (this.1 e)), if_neg h]
theorem num_eq (k : Nat) (s : ByteArray) (hs : s.size ≤ 300) (h : strings_ToUpper.f s = some ⟨(up s).toArray⟩) : spec_PrivilegeNumber.f (k + 8) s = impl_Privilege.f s := by
  unfold spec_PrivilegeNumber.f impl_Privilege.f configurations_DBAPrivilegeFromString.f
  rw [h]
  simp only [spec_PrivilegeNames.f, Option.bind_some, Go.ByteArray.toList_eq]
  show spec_PrivilegeNumber.l0 (k + 7 + 1) _ _ _ _ _ = _
  have hz : ∀ (s : ByteArray) (nums : List Int) (names : List ByteArray) (n i : Int), ¬ i < n → spec_PrivilegeNumber.l0 (k + 1) s nums names n i = some 0 := fun s nums names n i h => by simp only [spec_PrivilegeNumber.l0]; rw [if_neg h]
  rw [num_step (k + 7) s _ _ _ 0 (by decide) (by decide) rfl rfl (by decide) _ rfl (by decide) (by decide) hs]
  rw [num_step (k + 6) s _ _ _ (0 + 1) (by decide) (by decide) rfl rfl (by decide) _ rfl (by decide) (by decide) hs]
  rw [num_step (k + 5) s _ _ _ (0 + 1 + 1) (by decide) (by decide) rfl rfl (by decide) _ rfl (by decide) (by decide) hs]
  rw [num_step (k + 4) s _ _ _ (0 + 1 + 1 + 1) (by decide) (by decide) rfl rfl (by decide) _ rfl (by decide) (by decide) hs]
  rw [num_step (k + 3) s _ _ _ (0 + 1 + 1 + 1 + 1) (by decide) (by decide) rfl rfl (by decide) _ rfl (by decide) (by decide) hs]
  rw [num_step (k + 2) s _ _ _ (0 + 1 + 1 + 1 + 1 + 1) (by decide) (by decide) rfl rfl (by decide) _ rfl (by decide) (by decide) hs]
  rw [num_step (k + 1) s _ _ _ (0 + 1 + 1 + 1 + 1 + 1 + 1) (by decide) (by decide) rfl rfl (by decide) _ rfl (by decide) (by decide) hs]
  rw [hz _ _ _ _ _ (by decide)]
  generalize up s = u
  have e : ∀ (c : Prop) [Decidable c] (a b : Option Int), (if c then a else b).bind (fun t => some t) = if c then a.bind (fun t => some t) else b.bind (fun t => some t) := fun c _ a b => by split <;> rfl
  simp only [e, Option.bind_some]
  rfl
theorem short_f (k : Nat) (s : ByteArray) : laws_configShort.f (k + 2) [s] = some (decide (s.size ≤ 300)) := by
  unfold laws_configShort.f
  have e : rdOf ByteArray.empty [s] 0 = s := rfl
  have w1 : wrap64 (0 + 1) = 1 := by unfold wrap64; omega
  have hl : (([s] : List ByteArray).length : Int) = 1 := rfl
  simp only [laws_configShort.l0, hl, e, w1]
  by_cases h : s.size ≤ 300
  · have h' : ¬ ((s.size : Int) > 300) := by omega
    simp [h, h']
  · have h' : (s.size : Int) > 300 := by omega
    simp [h, h']
theorem FnPrivilege (a : ByteArray) (w : a.size ≤ 140737488351232) : ∃ k, laws_FnPrivilege.f k a = some true := by
  refine ⟨9, ?_⟩
  unfold laws_FnPrivilege.f
  by_cases h0 : (a.size : Int) > 2147483647
  · rw [if_pos h0]
  · rw [if_neg h0, short_f 7 a, Option.bind_some]
    by_cases h1 : a.size ≤ 300
    · rw [decide_eq_true h1, if_pos rfl]
      unfold spec_ConfigPlain.f
      rw [if_pos (by omega), Option.bind_some]
      simp only [laws_FnPrivilege.j0]
      by_cases h2 : ∀ x ∈ bytesOf a, x < 128
      · rw [decide_eq_true h2, if_neg (by decide)]
        have hup : strings_ToUpper.f a = some ⟨(up a).toArray⟩ := by
          unfold strings_ToUpper.f
          rw [if_pos (by omega), if_pos (fun x hx => ?_)]
          · rfl
          · have := h2 (x.toNat : Int) (by unfold bytesOf; exact List.mem_map.2 ⟨x, hx, rfl⟩)
            omega
        rw [num_eq 0 a h1 hup]
        have hsome : ∃ n, impl_Privilege.f a = some n := by
          unfold impl_Privilege.f configurations_DBAPrivilegeFromString.f
          rw [hup, Option.bind_some]
          repeat (first | exact ⟨_, rfl⟩ | split)
        obtain ⟨n, hn⟩ := hsome
        rw [hn, Option.bind_some, Option.bind_some, if_pos rfl, awake]
        rfl
      · rw [decide_eq_false h2, if_pos (by decide), awake]
        rfl
    · rw [decide_eq_false h1, if_neg (by decide)]
      simp only [laws_FnPrivilege.j0]
      rw [if_pos trivial, awake]
      rfl
end Go.Proofs.YtipkpgmgjdfgoaaDoor.Pure
