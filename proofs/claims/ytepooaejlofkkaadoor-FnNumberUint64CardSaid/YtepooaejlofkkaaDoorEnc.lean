/- converters.EncodeInt64 over the library's FormatInt and over ToNumber. -/
import Derived.Test.YtepooaejlofkkaaDoorToN
import Derived.Test.YtepooaejlofkkaaDoorTab
import Derived.Lib.ItoaLen
namespace Go.Proofs.YtepooaejlofkkaaDoor.X
open Go.RowKit Go.Proofs.YtepooaejlofkkaaDoorW.PrintWords Go.Proofs.YtepooaejlofkkaaDoorW.PrintMore
attribute [local go_sem] setCell_drewN alloc_drewN
set_option linter.unusedVariables false
set_option linter.unusedSimpArgs false

/-- '[]byte(s)': a row that is read: its bytes. -/
theorem conv_bytes {P : Program} (w1 : World) (src dst : TypeId) {u : TypeDesc} (hs : P.underlying src = some u) (hd : P.underlying dst = some (.slice 5)) (he : P.underlying 5 = some (.int .u8)) (s : ByteArray) (hz : s.size ≤ 9223372036854775807) :
    ∃ w2 c, (convert src dst (.string s)).run P w1 = .ok (.slice (some ⟨w1.heap.size, 0, none⟩) s.size c) w2 ∧ s.size ≤ c ∧ Below w1.heap.size w1 w2 ∧ w1.heap.size < w2.heap.size ∧ ∀ i : Nat, i < s.size → w2.cell? ⟨w1.heap.size, i, none⟩ = some (.int .u8 ((bytesOf s).getD i 0)) := by
  refine ⟨_, _, print_bytes src dst 5 hs hd he s w1, grownCap_ge _ _ _ _, bytes_below (Below.refl _ _) (Nat.le_refl _) 5 s, by rw [Lib.bytesWorld_size]; omega, fun i hi => ?_⟩
  rw [Lib.bytesWorld_cell w1 5 s i hi]
  have h' : i < s.data.toList.length := by rw [data_length]; exact hi
  simp [bytesOf, List.getD_eq_getElem?_getD, List.getElem?_eq_getElem h']

/-- How many noughts stand at the end. -/
def tzc (l : List Int) : Nat := (l.reverse.takeWhile (· == 48)).length
def trimZ (l : List Int) : List Int := l.take (l.length - tzc l)
theorem takeWhile_get {p : Int → Bool} : ∀ (l : List Int) (j : Nat), j < (l.takeWhile p).length → p (l.getD j 0) = true
  | [], j, h => absurd h (by simp)
  | a :: t, j, h => by
    rw [List.takeWhile_cons] at h
    split at h
    · rename_i ha
      cases j with
      | zero => exact ha
      | succ j => exact takeWhile_get t j (by simpa using h)
    · simp at h
theorem takeWhile_end {p : Int → Bool} : ∀ (l : List Int), (l.takeWhile p).length < l.length → p (l.getD (l.takeWhile p).length 0) = false
  | [], h => absurd h (by simp)
  | a :: t, h => by
    rw [List.takeWhile_cons] at h ⊢
    split at h
    · rename_i ha
      rw [if_pos ha]
      exact takeWhile_end t (by simpa using h)
    · rename_i ha
      rw [if_neg ha]
      simpa using ha
theorem tzc_le (l : List Int) : tzc l ≤ l.length := by
  unfold tzc
  have := (List.takeWhile_sublist (fun x : Int => x == 48) (l := l.reverse)).length_le
  rwa [List.length_reverse] at this
theorem getD_rev (l : List Int) (j : Nat) (h : j < l.length) : l.reverse.getD j 0 = l.getD (l.length - 1 - j) 0 := by
  simp only [List.getD_eq_getElem?_getD]
  rw [List.getElem?_reverse h]
theorem tzc_get (l : List Int) (j : Nat) (h : j < tzc l) : (l.getD (l.length - 1 - j) 0 == 48) = true := by
  have := takeWhile_get l.reverse j h
  rwa [getD_rev l j (Nat.lt_of_lt_of_le h (tzc_le l))] at this
theorem tzc_end (l : List Int) (h : tzc l < l.length) : (l.getD (l.length - 1 - tzc l) 0 == 48) = false := by
  have := takeWhile_end l.reverse (by rw [List.length_reverse]; exact h)
  rwa [show (l.reverse.takeWhile fun x => x == 48).length = tzc l from rfl, getD_rev l _ h] at this

/-- The decimal digits' letters of an integer's size. -/
def dg (v : Int) : List Int := (Lib.decDigits v.natAbs).map fun b => (b.toNat : Int)
theorem dg_pos (v : Int) : 0 < (dg v).length := by
  unfold dg
  rw [List.length_map, Lib.decDigits]
  split <;> simp
theorem dg_le (v : Int) (h0 : -9223372036854775808 ≤ v) (h1 : v ≤ 9223372036854775807) : (dg v).length ≤ 21 := by
  have := Lib.itoa_length_le v h0 h1
  unfold dg
  rw [List.length_map]
  unfold Lib.itoa at this
  split at this
  · simp at this; omega
  · rwa [show v.toNat = v.natAbs from by omega] at this
theorem itoa_bytes (v : Int) : bytesOf ⟨(Lib.itoa v).toArray⟩ = if v < 0 then 45 :: dg v else dg v := by
  unfold bytesOf dg Lib.itoa
  split
  · simp
  · rw [show v.toNat = v.natAbs from by omega]
theorem itoa_size (v : Int) : (⟨(Lib.itoa v).toArray⟩ : ByteArray).size = if v < 0 then (dg v).length + 1 else (dg v).length := by
  rw [← bytesOf_length, itoa_bytes]
  split <;> simp
/-- The first letter is no sign. -/
theorem dg_first (v : Int) : ((dg v).getD 0 0 == 45) = false := by
  have : ∀ u : Nat, ∀ b ∈ Lib.decDigits u, 48 ≤ b.toNat := by
    intro u
    induction u using Nat.strongRecOn with
    | _ u ih =>
      intro b hb
      rw [Lib.decDigits] at hb
      split at hb
      · rename_i h
        rw [List.mem_singleton.1 hb, UInt8.toNat_ofNat']
        omega
      · rename_i h
        rcases List.mem_append.1 hb with hb | hb
        · exact ih _ (by omega) b hb
        · rw [List.mem_singleton.1 hb, UInt8.toNat_ofNat']
          omega
  have hp := dg_pos v
  rw [beq_eq_false_iff_ne]
  intro e
  rw [List.getD_eq_getElem?_getD, List.getElem?_eq_getElem hp] at e
  have hm : (dg v)[0] ∈ dg v := List.getElem_mem hp
  unfold dg at hm
  obtain ⟨b, hb, hbe⟩ := List.mem_map.1 hm
  have := this _ b hb
  have e' : (dg v)[0] = 45 := by simpa using e
  unfold dg at e'
  rw [← hbe] at e'
  omega
def EncRes (v : Int) : List Int := toNum (trimZ (dg v)) (decide (v < 0)) ((dg v).length - 1)
set_option maxRecDepth 100000 in
set_option maxHeartbeats 4000000 in
theorem encodeInt64 (v : Int) (w : World) (h0 : -9223372036854775808 ≤ v) (h1 : v ≤ 9223372036854775807) (htab : Tab w) :
    Calls Tryd.prog 31 #[.int .i64 v] w (RetRow (EncRes v) w) := by
  obtain ⟨D, hD⟩ : ∃ D, D = dg v := ⟨_, rfl⟩
  have hm0 : 0 < D.length := by rw [hD]; exact dg_pos v
  have hm1 : D.length ≤ 21 := by rw [hD]; exact dg_le v h0 h1
  have hfirst : (D.getD 0 0 == 45) = false := by rw [hD]; exact dg_first v
  obtain ⟨fin, hfin⟩ : ∃ fin, fin = EncRes v := ⟨_, rfl⟩
  obtain ⟨s, hs⟩ : ∃ s : ByteArray, s = ⟨(Lib.itoa v).toArray⟩ := ⟨_, rfl⟩
  have hsz : s.size = if v < 0 then D.length + 1 else D.length := by rw [hs, itoa_size, hD]
  have hby : bytesOf s = if v < 0 then 45 :: D else D := by rw [hs, itoa_bytes, hD]
  have FI : Hid (Calls Tryd.prog 41 #[.int .i64 v, .int .i64 10] w fun e w' => e = .returned (.string s) ∧ Below w.heap.size w w') := Lib.hid (strconv_FormatInt.calls v 10 s w (by unfold strconv_FormatInt.f; rw [if_pos rfl, if_pos ⟨h0, h1⟩, hs]) htab)
  have HFIN := Lib.hid (show fin = toNum (trimZ D) (decide (v < 0)) (D.length - 1) by rw [hfin, hD]; rfl)
  rw [← hfin]
  have ht := tzc_le D
  have HT1 := Lib.hid (tzc_get D)
  have HT2 := Lib.hid (tzc_end D)
  have HTR := Lib.hid (show trimZ D = D.take (D.length - tzc D) from rfl)
  generalize tzc D = t at *
  generalize trimZ D = E at *
  have HSZ := Lib.hid hsz
  have HBY := Lib.hid hby
  clear hs hsz hby hfin hD h0 h1 htab
  by_cases hneg : v < 0
  all_goals
    go_enter Tryd.func31, Tryd.ntmps31
    go_wp2_with fail
    refine FI.out.mono ?_
    rintro e w1 ⟨rfl, hB1⟩
    obtain ⟨w2, c, hcv, hsc, hB2, hg2, hcell⟩ := conv_bytes (P := Tryd.prog) w1 9 22 Tryd.underlying9 Tryd.underlying22 Tryd.underlying5 s (by rw [HSZ.out]; split <;> omega)
    have hsz := HSZ.out
    have hby := HBY.out
    first | rw [if_pos (by omega)] at hsz hby | rw [if_neg (by omega)] at hsz hby
    rw [hsz] at hsc hcv
    rw [hby, hsz] at hcell
    have HB := Lib.hid (bl_trans hB1 hB2)
    have HC := Lib.hid hcell
    clear hB1 hB2 hcell hby
    have c0 := HC.out 0 (by omega)
    have hc1 : ¬ c = 1 ∨ v ≥ 0 := by omega
    generalize w1.heap.size = g at *
    try (simp only [List.getD_cons_zero] at c0; have q1 : 1 ≤ c := by omega; have q2 : ¬ c = 1 := by omega)
    try (generalize hx0 : D.getD 0 0 = x0 at c0 hfirst)
    clear hc1
    go_wp2
    go_loop [6, 7] (fun v6 v7 => ∃ j : Nat, j ≤ t ∧ v6 = .int .i64 j ∧ v7 = .int .i64 ((D.length : Int) - 1 - (j : Int))) (fun v6 _ => D.length + 1 - (intOf v6).toNat)
    case atStart => exact ⟨0, Nat.zero_le _, rfl, by simp⟩
    case round =>
      obtain ⟨j, hj, rfl, rfl⟩ := hrel
      have HX : Hid (∀ i, i < D.length → (v < 0 → w2.cell? ⟨g, 1 + i, none⟩ = some (.int .u8 (D.getD i 0))) ∧ (¬ v < 0 → w2.cell? ⟨g, i, none⟩ = some (.int .u8 (D.getD i 0)))) := Lib.hid fun i hi => by
        first
          | (have h := HC.out (1 + i) (by omega); exact ⟨fun _ => by rw [h, Nat.add_comm 1 i]; rfl, fun h' => absurd hneg h'⟩)
          | exact ⟨fun h' => absurd h' (by omega), fun _ => HC.out i hi⟩
      by_cases hjt : j < t
      · have hx := HT1.out j hjt
        have hc := HX.out (D.length - 1 - j) (by omega)
        generalize D.getD (D.length - 1 - j) 0 = x at hc hx
        first | replace hc := hc.1 hneg | replace hc := hc.2 (by omega)
        go_wp2
        go_round
        case rel => exact ⟨j + 1, by omega, by go_num, by go_num⟩
        case measure => simp [intOf]; omega
      · obtain rfl : j = t := by omega
        have hEl : Hid (E.length = D.length - j) := Lib.hid (by rw [HTR.out, List.length_take]; omega)
        have hEg : ∀ i, i < D.length - j → E.getD i 0 = D.getD i 0 := fun i hi => by
          rw [HTR.out]
          simp only [List.getD_eq_getElem?_getD]
          rw [List.getElem?_take, if_pos hi]
        have TN1 : Hid (v < 0 → Calls Tryd.prog 33 #[.slice (some ⟨g, 1, none⟩) (D.length - j) (c - 1), .bool true, .int .i64 ((D.length : Int) - 1)] w2 (RetRow fin w2)) := Lib.hid fun hv => by
          have T := converters_ToNumber.calls (some ⟨g, 1, none⟩) (c - 1) E true ((D.length : Int) - 1) fin w2 (C_of (by rw [hEl.out]; omega) (fun i hi => by rw [hEl.out] at hi; rw [hEg i hi]; exact (HX.out i (by omega)).1 hv)) (by rw [hEl.out]; omega) (by unfold converters_ToNumber.f; rw [if_pos (by rw [hEl.out]; omega), if_pos (by omega), HFIN.out, decide_eq_true hv])
          rw [hEl.out] at T
          exact T
        have TN2 : Hid (¬ v < 0 → Calls Tryd.prog 33 #[.slice (some ⟨g, 0, none⟩) (D.length - j) c, .bool false, .int .i64 ((D.length : Int) - 1)] w2 (RetRow fin w2)) := Lib.hid fun hv => by
          have T := converters_ToNumber.calls (some ⟨g, 0, none⟩) c E false ((D.length : Int) - 1) fin w2 (C_of (by rw [hEl.out]; omega) (fun i hi => by rw [hEl.out] at hi; rw [hEg i hi, Nat.zero_add]; exact (HX.out i (by omega)).2 hv)) (by rw [hEl.out]; omega) (by unfold converters_ToNumber.f; rw [if_pos (by rw [hEl.out]; omega), if_pos (by omega), HFIN.out, decide_eq_false hv])
          rw [hEl.out] at T
          exact T
        clear hEg
        have hcc : D.length - j ≤ c := by omega
        rcases Nat.lt_or_ge j D.length with hjD | hjD
        · have hx := HT2.out hjD
          have hc := HX.out (D.length - 1 - j) (by omega)
          generalize D.getD (D.length - 1 - j) 0 = x at hc hx
          first | replace hc := hc.1 hneg | replace hc := hc.2 (by omega)
          go_wp2_with fail
          first | (with_reducible refine (TN1.out (by omega)).mono ?_) | (with_reducible refine (TN2.out (by omega)).mono ?_)
          rintro e w3 ⟨v0, rfl, hR, hB3⟩
          go_wp2
          go_ret
          exact ⟨v0, rfl, Kd.R_lower hR HB.out.size, bl_trans HB.out hB3⟩
        · have hz0 : D.length - j = 0 := by omega
          have T1 := TN1.out
          have T2 := TN2.out
          rw [hz0] at T1 T2
          have HT3 := Lib.hid T1
          have HT4 := Lib.hid T2
          clear T1 T2 hz0 TN1 TN2
          go_wp2_with fail
          first | (with_reducible refine (HT3.out (by omega)).mono ?_) | (with_reducible refine (HT4.out (by omega)).mono ?_)
          rintro e w3 ⟨v0, rfl, hR, hB3⟩
          go_wp2
          go_ret
          exact ⟨v0, rfl, Kd.R_lower hR HB.out.size, bl_trans HB.out hB3⟩

def converters_EncodeInt64.f (a0 : Int) : Option (List Int) := if -9223372036854775808 ≤ a0 ∧ a0 ≤ 9223372036854775807 then some (EncRes a0) else none
theorem converters_EncodeInt64.calls (a0 : Int) (r : List Int) (w : World) (h : converters_EncodeInt64.f a0 = some r) (htab : Tab w) :
    Calls Tryd.prog 31 #[.int .i64 a0] w fun e w' => ∃ v0_ : Value, e = .returned (v0_) ∧ Kd.R (Kd.int .u8) 5 w' w.heap.size (fun _ => True) v0_ r ∧ Below w.heap.size w w' := by
  unfold converters_EncodeInt64.f at h
  split at h
  · rename_i h1
    obtain rfl := Option.some.inj h
    exact encodeInt64 a0 w h1.1 h1.2 htab
  · cases h
end Go.Proofs.YtepooaejlofkkaaDoor.X
