/- laws.urlHost, laws.urlName: which texts can be a host, or an option's name. -/
import Derived.Test.YtipkpgmgjdfgoaaDoorCe
namespace Go.Proofs.YtipkpgmgjdfgoaaDoor.X
open Go.RowKit Go.Proofs.YtipkpgmgjdfgoaaDoorW.PrintWords Go.Proofs.YtipkpgmgjdfgoaaDoorW.PrintMore
attribute [local go_sem] setCell_drewN alloc_drewN
set_option linter.unusedVariables false
set_option linter.unusedSimpArgs false
namespace Url
def hostc (x : Int) : Bool := alnum x || (x == 46) || (x == 45)
theorem empty_facts {a : ByteArray} (h : a.size = 0) : a = ⟨#[]⟩ := by
  apply ByteArray.ext
  apply Array.ext'
  apply List.eq_nil_of_length_eq_zero
  rw [data_length, h]
theorem full_facts {a : ByteArray} (h : 0 < a.size) : (a.toList == ([] : List UInt8)) = false ∧ (a.toList != ([] : List UInt8)) = true ∧ a.toList.isEmpty = false := by
  have hl0 : a.toList ≠ [] := by
    intro e
    rw [Go.ByteArray.toList_eq] at e
    have := data_length a
    rw [e] at this
    simp at this
    omega
  refine ⟨beq_eq_false_iff_ne.2 hl0, bne_iff_ne.2 hl0, ?_⟩
  cases hq : a.toList with
  | nil => exact absurd hq hl0
  | cons a b => rfl
end Url
def laws_urlHost.f (a0 : ByteArray) : Option Bool := if a0.size ≤ 2147483647 then some (decide ((∀ x ∈ bytesOf a0, Url.hostc x = true) ∧ 0 < a0.size ∧ a0.size ≤ 100)) else none
set_option maxHeartbeats 8000000 in
set_option maxRecDepth 100000 in
theorem laws_urlHost.calls (a0 : ByteArray) (r : Bool) (w : World) (h : laws_urlHost.f a0 = some r) :
    Calls Tryd.prog 30 #[.string a0] w fun e w' => e = .returned (.bool r) ∧ Below w.heap.size w w' := by
  unfold laws_urlHost.f at h
  split at h
  · rename_i hsz
    have hr := Lib.hid (Option.some.inj h)
    clear h
    obtain ⟨w2, c, cs, hcv, hsc, hB2, hblk, hcell⟩ := conv_row (P := Tryd.prog) w 9 43 Tryd.underlying9 Tryd.underlying43 Tryd.underlying5 a0
    have hlen := bytesOf_length a0
    have hbyt := byt_bytesOf a0
    obtain ⟨l, hl⟩ : ∃ l, l = bytesOf a0 := ⟨_, rfl⟩
    rw [← hl] at hr hlen hbyt hcell
    clear hl
    obtain ⟨n, hn⟩ : ∃ n, n = a0.size := ⟨_, rfl⟩
    rw [← hn] at hr hlen hcell hsc hsz hcv
    have HN := Lib.hid hn.symm
    have HB := Lib.hid hB2
    have HC := Lib.hid (fun i hi => (xb_cell hblk i).trans (hcell i hi))
    have HL := Lib.hid hlen
    have HY := Lib.hid hbyt
    clear hB2 hblk hcell hbyt hlen hn
    go_enter Tryd.func30, Tryd.ntmps30
    go_wp2
    go_loop [8] (fun v8 => ∃ i : Nat, i ≤ n ∧ v8 = .int .i64 i ∧ Hid (∀ j, j < i → Url.hostc (l.getD j 0) = true)) (fun v8 => n - (intOf v8).toNat)
    case atStart => exact ⟨0, Nat.zero_le _, rfl, Lib.hid fun j hj => absurd hj (Nat.not_lt_zero j)⟩
    case round =>
      obtain ⟨i, hi, rfl, HA⟩ := hrel
      by_cases hlt : i < n
      · have x0 := HC.out i hlt
        have hx := HY.out.get i
        have HNx : Hid (Url.hostc (l.getD i 0) = true → ∀ j, j < i + 1 → Url.hostc (l.getD j 0) = true) := Lib.hid fun e j hj => by
          by_cases h : j < i
          · exact HA.out j h
          · obtain rfl : j = i := by omega
            exact e
        have HF : Hid (¬ Url.hostc (l.getD i 0) = true → r = false) := Lib.hid fun e => by
          rw [← hr.out, decide_eq_false_iff_not]
          intro ha
          refine e (ha.1 _ ?_)
          rw [List.getD_eq_getElem?_getD, List.getElem?_eq_getElem (by rw [HL.out]; exact hlt)]
          exact List.getElem_mem _
        generalize l.getD i 0 = x at *
        rcases (show (x < 45) ∨ (x = 45) ∨ (x = 46) ∨ (46 < x ∧ x < 48) ∨ (48 ≤ x ∧ x ≤ 57) ∨ (57 < x ∧ x < 65) ∨ (65 ≤ x ∧ x ≤ 90) ∨ (90 < x ∧ x < 97) ∨ (97 ≤ x ∧ x ≤ 122) ∨ (122 < x) by omega) with k | k | k | k | k | k | k | k | k | k
        · have d0 : decide (x ≥ 97) = false := decide_eq_false (by omega)
          have d1 : decide (x ≤ 122) = true := decide_eq_true (by omega)
          have d2 : decide (x ≥ 65) = false := decide_eq_false (by omega)
          have d3 : decide (x ≤ 90) = true := decide_eq_true (by omega)
          have d4 : decide (x ≥ 48) = false := decide_eq_false (by omega)
          have d5 : decide (x ≤ 57) = true := decide_eq_true (by omega)
          have d6 : (x == 46) = false := beq_eq_false_iff_ne.2 (by omega)
          have d7 : (x == 45) = false := beq_eq_false_iff_ne.2 (by omega)
          have hrf := HF.out (by unfold Url.hostc Url.alnum; simp; omega)
          subst hrf
          clear k
          go_wp2
          go_ret
          exact ⟨rfl, HB.out⟩
        · have d0 : decide (x ≥ 97) = false := decide_eq_false (by omega)
          have d1 : decide (x ≤ 122) = true := decide_eq_true (by omega)
          have d2 : decide (x ≥ 65) = false := decide_eq_false (by omega)
          have d3 : decide (x ≤ 90) = true := decide_eq_true (by omega)
          have d4 : decide (x ≥ 48) = false := decide_eq_false (by omega)
          have d5 : decide (x ≤ 57) = true := decide_eq_true (by omega)
          have d6 : (x == 46) = false := beq_eq_false_iff_ne.2 (by omega)
          have d7 : (x == 45) = true := beq_iff_eq.2 (by omega)
          have HG := Lib.hid (HNx.out (by unfold Url.hostc Url.alnum; simp; omega))
          clear k
          go_wp2
          go_round
          case rel => exact ⟨i + 1, by omega, by go_num, HG⟩
          case measure => simp [intOf]; omega
        · have d0 : decide (x ≥ 97) = false := decide_eq_false (by omega)
          have d1 : decide (x ≤ 122) = true := decide_eq_true (by omega)
          have d2 : decide (x ≥ 65) = false := decide_eq_false (by omega)
          have d3 : decide (x ≤ 90) = true := decide_eq_true (by omega)
          have d4 : decide (x ≥ 48) = false := decide_eq_false (by omega)
          have d5 : decide (x ≤ 57) = true := decide_eq_true (by omega)
          have d6 : (x == 46) = true := beq_iff_eq.2 (by omega)
          have d7 : (x == 45) = false := beq_eq_false_iff_ne.2 (by omega)
          have HG := Lib.hid (HNx.out (by unfold Url.hostc Url.alnum; simp; omega))
          clear k
          go_wp2
          go_round
          case rel => exact ⟨i + 1, by omega, by go_num, HG⟩
          case measure => simp [intOf]; omega
        · have d0 : decide (x ≥ 97) = false := decide_eq_false (by omega)
          have d1 : decide (x ≤ 122) = true := decide_eq_true (by omega)
          have d2 : decide (x ≥ 65) = false := decide_eq_false (by omega)
          have d3 : decide (x ≤ 90) = true := decide_eq_true (by omega)
          have d4 : decide (x ≥ 48) = false := decide_eq_false (by omega)
          have d5 : decide (x ≤ 57) = true := decide_eq_true (by omega)
          have d6 : (x == 46) = false := beq_eq_false_iff_ne.2 (by omega)
          have d7 : (x == 45) = false := beq_eq_false_iff_ne.2 (by omega)
          have hrf := HF.out (by unfold Url.hostc Url.alnum; simp; omega)
          subst hrf
          clear k
          go_wp2
          go_ret
          exact ⟨rfl, HB.out⟩
        · have d0 : decide (x ≥ 97) = false := decide_eq_false (by omega)
          have d1 : decide (x ≤ 122) = true := decide_eq_true (by omega)
          have d2 : decide (x ≥ 65) = false := decide_eq_false (by omega)
          have d3 : decide (x ≤ 90) = true := decide_eq_true (by omega)
          have d4 : decide (x ≥ 48) = true := decide_eq_true (by omega)
          have d5 : decide (x ≤ 57) = true := decide_eq_true (by omega)
          have d6 : (x == 46) = false := beq_eq_false_iff_ne.2 (by omega)
          have d7 : (x == 45) = false := beq_eq_false_iff_ne.2 (by omega)
          have HG := Lib.hid (HNx.out (by unfold Url.hostc Url.alnum; simp; omega))
          clear k
          go_wp2
          go_round
          case rel => exact ⟨i + 1, by omega, by go_num, HG⟩
          case measure => simp [intOf]; omega
        · have d0 : decide (x ≥ 97) = false := decide_eq_false (by omega)
          have d1 : decide (x ≤ 122) = true := decide_eq_true (by omega)
          have d2 : decide (x ≥ 65) = false := decide_eq_false (by omega)
          have d3 : decide (x ≤ 90) = true := decide_eq_true (by omega)
          have d4 : decide (x ≥ 48) = true := decide_eq_true (by omega)
          have d5 : decide (x ≤ 57) = false := decide_eq_false (by omega)
          have d6 : (x == 46) = false := beq_eq_false_iff_ne.2 (by omega)
          have d7 : (x == 45) = false := beq_eq_false_iff_ne.2 (by omega)
          have hrf := HF.out (by unfold Url.hostc Url.alnum; simp; omega)
          subst hrf
          clear k
          go_wp2
          go_ret
          exact ⟨rfl, HB.out⟩
        · have d0 : decide (x ≥ 97) = false := decide_eq_false (by omega)
          have d1 : decide (x ≤ 122) = true := decide_eq_true (by omega)
          have d2 : decide (x ≥ 65) = true := decide_eq_true (by omega)
          have d3 : decide (x ≤ 90) = true := decide_eq_true (by omega)
          have d4 : decide (x ≥ 48) = true := decide_eq_true (by omega)
          have d5 : decide (x ≤ 57) = false := decide_eq_false (by omega)
          have d6 : (x == 46) = false := beq_eq_false_iff_ne.2 (by omega)
          have d7 : (x == 45) = false := beq_eq_false_iff_ne.2 (by omega)
          have HG := Lib.hid (HNx.out (by unfold Url.hostc Url.alnum; simp; omega))
          clear k
          go_wp2
          go_round
          case rel => exact ⟨i + 1, by omega, by go_num, HG⟩
          case measure => simp [intOf]; omega
        · have d0 : decide (x ≥ 97) = false := decide_eq_false (by omega)
          have d1 : decide (x ≤ 122) = true := decide_eq_true (by omega)
          have d2 : decide (x ≥ 65) = true := decide_eq_true (by omega)
          have d3 : decide (x ≤ 90) = false := decide_eq_false (by omega)
          have d4 : decide (x ≥ 48) = true := decide_eq_true (by omega)
          have d5 : decide (x ≤ 57) = false := decide_eq_false (by omega)
          have d6 : (x == 46) = false := beq_eq_false_iff_ne.2 (by omega)
          have d7 : (x == 45) = false := beq_eq_false_iff_ne.2 (by omega)
          have hrf := HF.out (by unfold Url.hostc Url.alnum; simp; omega)
          subst hrf
          clear k
          go_wp2
          go_ret
          exact ⟨rfl, HB.out⟩
        · have d0 : decide (x ≥ 97) = true := decide_eq_true (by omega)
          have d1 : decide (x ≤ 122) = true := decide_eq_true (by omega)
          have d2 : decide (x ≥ 65) = true := decide_eq_true (by omega)
          have d3 : decide (x ≤ 90) = false := decide_eq_false (by omega)
          have d4 : decide (x ≥ 48) = true := decide_eq_true (by omega)
          have d5 : decide (x ≤ 57) = false := decide_eq_false (by omega)
          have d6 : (x == 46) = false := beq_eq_false_iff_ne.2 (by omega)
          have d7 : (x == 45) = false := beq_eq_false_iff_ne.2 (by omega)
          have HG := Lib.hid (HNx.out (by unfold Url.hostc Url.alnum; simp; omega))
          clear k
          go_wp2
          go_round
          case rel => exact ⟨i + 1, by omega, by go_num, HG⟩
          case measure => simp [intOf]; omega
        · have d0 : decide (x ≥ 97) = true := decide_eq_true (by omega)
          have d1 : decide (x ≤ 122) = false := decide_eq_false (by omega)
          have d2 : decide (x ≥ 65) = true := decide_eq_true (by omega)
          have d3 : decide (x ≤ 90) = false := decide_eq_false (by omega)
          have d4 : decide (x ≥ 48) = true := decide_eq_true (by omega)
          have d5 : decide (x ≤ 57) = false := decide_eq_false (by omega)
          have d6 : (x == 46) = false := beq_eq_false_iff_ne.2 (by omega)
          have d7 : (x == 45) = false := beq_eq_false_iff_ne.2 (by omega)
          have hrf := HF.out (by unfold Url.hostc Url.alnum; simp; omega)
          subst hrf
          clear k
          go_wp2
          go_ret
          exact ⟨rfl, HB.out⟩
      · obtain rfl : i = n := by omega
        have hall : ∀ x ∈ l, Url.hostc x = true := fun x hx => by
          obtain ⟨j, hj, rfl⟩ := List.getElem_of_mem hx
          have := HA.out j (by rw [← HL.out]; exact hj)
          rwa [List.getD_eq_getElem?_getD, List.getElem?_eq_getElem hj] at this
        by_cases h0 : i = 0
        · have hrf : r = false := by rw [← hr.out, decide_eq_false_iff_not]; omega
          subst hrf
          have he := Url.empty_facts (HN.out.trans h0)
          subst he
          clear hall
          go_wp2
          go_ret
          exact ⟨rfl, HB.out⟩
        · obtain ⟨q1, q2, q3⟩ := Url.full_facts (a := a0) (by rw [HN.out]; omega)
          have hns := HN.out
          by_cases h1 : (i : Int) ≤ 100
          · have hrt : r = true := by rw [← hr.out, decide_eq_true_eq]; exact ⟨hall, by omega, by omega⟩
            subst hrt
            have t1 : decide ((i : Int) ≤ 100) = true := decide_eq_true h1
            clear hall h0
            go_wp2
            go_ret
            exact ⟨rfl, HB.out⟩
          · have hrf : r = false := by rw [← hr.out, decide_eq_false_iff_not]; omega
            subst hrf
            have t1 : decide ((i : Int) ≤ 100) = false := decide_eq_false h1
            clear hall h0
            go_wp2
            go_ret
            exact ⟨rfl, HB.out⟩
  · cases h
def laws_urlName.f (a0 : ByteArray) : Option Bool := if a0.size ≤ 2147483647 then some (decide ((∀ x ∈ bytesOf a0, Url.alnum x = true) ∧ 0 < a0.size ∧ a0.size ≤ 100)) else none
set_option maxHeartbeats 8000000 in
set_option maxRecDepth 100000 in
theorem laws_urlName.calls (a0 : ByteArray) (r : Bool) (w : World) (h : laws_urlName.f a0 = some r) :
    Calls Tryd.prog 31 #[.string a0] w fun e w' => e = .returned (.bool r) ∧ Below w.heap.size w w' := by
  unfold laws_urlName.f at h
  split at h
  · rename_i hsz
    have hr := Lib.hid (Option.some.inj h)
    clear h
    obtain ⟨w2, c, cs, hcv, hsc, hB2, hblk, hcell⟩ := conv_row (P := Tryd.prog) w 9 43 Tryd.underlying9 Tryd.underlying43 Tryd.underlying5 a0
    have hlen := bytesOf_length a0
    have hbyt := byt_bytesOf a0
    obtain ⟨l, hl⟩ : ∃ l, l = bytesOf a0 := ⟨_, rfl⟩
    rw [← hl] at hr hlen hbyt hcell
    clear hl
    obtain ⟨n, hn⟩ : ∃ n, n = a0.size := ⟨_, rfl⟩
    rw [← hn] at hr hlen hcell hsc hsz hcv
    have HN := Lib.hid hn.symm
    have HB := Lib.hid hB2
    have HC := Lib.hid (fun i hi => (xb_cell hblk i).trans (hcell i hi))
    have HL := Lib.hid hlen
    have HY := Lib.hid hbyt
    clear hB2 hblk hcell hbyt hlen hn
    go_enter Tryd.func31, Tryd.ntmps31
    go_wp2
    go_loop [8] (fun v8 => ∃ i : Nat, i ≤ n ∧ v8 = .int .i64 i ∧ Hid (∀ j, j < i → Url.alnum (l.getD j 0) = true)) (fun v8 => n - (intOf v8).toNat)
    case atStart => exact ⟨0, Nat.zero_le _, rfl, Lib.hid fun j hj => absurd hj (Nat.not_lt_zero j)⟩
    case round =>
      obtain ⟨i, hi, rfl, HA⟩ := hrel
      by_cases hlt : i < n
      · have x0 := HC.out i hlt
        have hx := HY.out.get i
        have HNx : Hid (Url.alnum (l.getD i 0) = true → ∀ j, j < i + 1 → Url.alnum (l.getD j 0) = true) := Lib.hid fun e j hj => by
          by_cases h : j < i
          · exact HA.out j h
          · obtain rfl : j = i := by omega
            exact e
        have HF : Hid (¬ Url.alnum (l.getD i 0) = true → r = false) := Lib.hid fun e => by
          rw [← hr.out, decide_eq_false_iff_not]
          intro ha
          refine e (ha.1 _ ?_)
          rw [List.getD_eq_getElem?_getD, List.getElem?_eq_getElem (by rw [HL.out]; exact hlt)]
          exact List.getElem_mem _
        generalize l.getD i 0 = x at *
        rcases (show (x < 48) ∨ (48 ≤ x ∧ x ≤ 57) ∨ (57 < x ∧ x < 65) ∨ (65 ≤ x ∧ x ≤ 90) ∨ (90 < x ∧ x < 97) ∨ (97 ≤ x ∧ x ≤ 122) ∨ (122 < x) by omega) with k | k | k | k | k | k | k
        · have d0 : decide (x ≥ 97) = false := decide_eq_false (by omega)
          have d1 : decide (x ≤ 122) = true := decide_eq_true (by omega)
          have d2 : decide (x ≥ 65) = false := decide_eq_false (by omega)
          have d3 : decide (x ≤ 90) = true := decide_eq_true (by omega)
          have d4 : decide (x ≥ 48) = false := decide_eq_false (by omega)
          have d5 : decide (x ≤ 57) = true := decide_eq_true (by omega)
          have hrf := HF.out (by unfold Url.alnum; simp; omega)
          subst hrf
          clear k
          go_wp2
          go_ret
          exact ⟨rfl, HB.out⟩
        · have d0 : decide (x ≥ 97) = false := decide_eq_false (by omega)
          have d1 : decide (x ≤ 122) = true := decide_eq_true (by omega)
          have d2 : decide (x ≥ 65) = false := decide_eq_false (by omega)
          have d3 : decide (x ≤ 90) = true := decide_eq_true (by omega)
          have d4 : decide (x ≥ 48) = true := decide_eq_true (by omega)
          have d5 : decide (x ≤ 57) = true := decide_eq_true (by omega)
          have HG := Lib.hid (HNx.out (by unfold Url.alnum; simp; omega))
          clear k
          go_wp2
          go_round
          case rel => exact ⟨i + 1, by omega, by go_num, HG⟩
          case measure => simp [intOf]; omega
        · have d0 : decide (x ≥ 97) = false := decide_eq_false (by omega)
          have d1 : decide (x ≤ 122) = true := decide_eq_true (by omega)
          have d2 : decide (x ≥ 65) = false := decide_eq_false (by omega)
          have d3 : decide (x ≤ 90) = true := decide_eq_true (by omega)
          have d4 : decide (x ≥ 48) = true := decide_eq_true (by omega)
          have d5 : decide (x ≤ 57) = false := decide_eq_false (by omega)
          have hrf := HF.out (by unfold Url.alnum; simp; omega)
          subst hrf
          clear k
          go_wp2
          go_ret
          exact ⟨rfl, HB.out⟩
        · have d0 : decide (x ≥ 97) = false := decide_eq_false (by omega)
          have d1 : decide (x ≤ 122) = true := decide_eq_true (by omega)
          have d2 : decide (x ≥ 65) = true := decide_eq_true (by omega)
          have d3 : decide (x ≤ 90) = true := decide_eq_true (by omega)
          have d4 : decide (x ≥ 48) = true := decide_eq_true (by omega)
          have d5 : decide (x ≤ 57) = false := decide_eq_false (by omega)
          have HG := Lib.hid (HNx.out (by unfold Url.alnum; simp; omega))
          clear k
          go_wp2
          go_round
          case rel => exact ⟨i + 1, by omega, by go_num, HG⟩
          case measure => simp [intOf]; omega
        · have d0 : decide (x ≥ 97) = false := decide_eq_false (by omega)
          have d1 : decide (x ≤ 122) = true := decide_eq_true (by omega)
          have d2 : decide (x ≥ 65) = true := decide_eq_true (by omega)
          have d3 : decide (x ≤ 90) = false := decide_eq_false (by omega)
          have d4 : decide (x ≥ 48) = true := decide_eq_true (by omega)
          have d5 : decide (x ≤ 57) = false := decide_eq_false (by omega)
          have hrf := HF.out (by unfold Url.alnum; simp; omega)
          subst hrf
          clear k
          go_wp2
          go_ret
          exact ⟨rfl, HB.out⟩
        · have d0 : decide (x ≥ 97) = true := decide_eq_true (by omega)
          have d1 : decide (x ≤ 122) = true := decide_eq_true (by omega)
          have d2 : decide (x ≥ 65) = true := decide_eq_true (by omega)
          have d3 : decide (x ≤ 90) = false := decide_eq_false (by omega)
          have d4 : decide (x ≥ 48) = true := decide_eq_true (by omega)
          have d5 : decide (x ≤ 57) = false := decide_eq_false (by omega)
          have HG := Lib.hid (HNx.out (by unfold Url.alnum; simp; omega))
          clear k
          go_wp2
          go_round
          case rel => exact ⟨i + 1, by omega, by go_num, HG⟩
          case measure => simp [intOf]; omega
        · have d0 : decide (x ≥ 97) = true := decide_eq_true (by omega)
          have d1 : decide (x ≤ 122) = false := decide_eq_false (by omega)
          have d2 : decide (x ≥ 65) = true := decide_eq_true (by omega)
          have d3 : decide (x ≤ 90) = false := decide_eq_false (by omega)
          have d4 : decide (x ≥ 48) = true := decide_eq_true (by omega)
          have d5 : decide (x ≤ 57) = false := decide_eq_false (by omega)
          have hrf := HF.out (by unfold Url.alnum; simp; omega)
          subst hrf
          clear k
          go_wp2
          go_ret
          exact ⟨rfl, HB.out⟩
      · obtain rfl : i = n := by omega
        have hall : ∀ x ∈ l, Url.alnum x = true := fun x hx => by
          obtain ⟨j, hj, rfl⟩ := List.getElem_of_mem hx
          have := HA.out j (by rw [← HL.out]; exact hj)
          rwa [List.getD_eq_getElem?_getD, List.getElem?_eq_getElem hj] at this
        by_cases h0 : i = 0
        · have hrf : r = false := by rw [← hr.out, decide_eq_false_iff_not]; omega
          subst hrf
          have he := Url.empty_facts (HN.out.trans h0)
          subst he
          clear hall
          go_wp2
          go_ret
          exact ⟨rfl, HB.out⟩
        · obtain ⟨q1, q2, q3⟩ := Url.full_facts (a := a0) (by rw [HN.out]; omega)
          have hns := HN.out
          by_cases h1 : (i : Int) ≤ 100
          · have hrt : r = true := by rw [← hr.out, decide_eq_true_eq]; exact ⟨hall, by omega, by omega⟩
            subst hrt
            have t1 : decide ((i : Int) ≤ 100) = true := decide_eq_true h1
            clear hall h0
            go_wp2
            go_ret
            exact ⟨rfl, HB.out⟩
          · have hrf : r = false := by rw [← hr.out, decide_eq_false_iff_not]; omega
            subst hrf
            have t1 : decide ((i : Int) ≤ 100) = false := decide_eq_false h1
            clear hall h0
            go_wp2
            go_ret
            exact ⟨rfl, HB.out⟩
  · cases h
end Go.Proofs.YtipkpgmgjdfgoaaDoor.X
