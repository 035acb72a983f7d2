/- converters.EncodeUint64 over the library's FormatUint and over ToNumber. -/
import Derived.Test.YtepooaejlofkkaaDoorEnc
import Derived.Test.YtepooaejlofkkaaDoorFu
namespace Go.Proofs.YtepooaejlofkkaaDoor.X
open Go.RowKit Go.Proofs.YtepooaejlofkkaaDoorW.PrintWords Go.Proofs.YtepooaejlofkkaaDoorW.PrintMore
attribute [local go_sem] setCell_drewN alloc_drewN
set_option linter.unusedVariables false
set_option linter.unusedSimpArgs false
theorem dg_leU (u : Nat) (h1 : u ≤ 18446744073709551615) : (dg u).length ≤ 21 := by
  unfold dg
  rw [List.length_map, Lib.decDigits_length, Int.natAbs_natCast]
  by_cases hu : 1 ≤ u
  · have := Lib.numDigits_eq u hu (by omega)
    split at this <;> omega
  · obtain rfl : u = 0 := by omega
    decide +kernel
theorem dg_bytes (u : Nat) : bytesOf ⟨(Lib.decDigits u).toArray⟩ = dg u := by unfold bytesOf dg; rw [Int.natAbs_natCast]
set_option maxRecDepth 100000 in
set_option maxHeartbeats 4000000 in
theorem encodeUint64 (u : Nat) (w : World) (h1 : u ≤ 18446744073709551615) (htab : Tab w) :
    Calls Tryd.prog 38 #[.int .u64 u] w (RetRow (EncRes u) w) := by
  obtain ⟨D, hD⟩ : ∃ D, D = dg u := ⟨_, rfl⟩
  have hm0 : 0 < D.length := by rw [hD]; exact dg_pos u
  have hm1 : D.length ≤ 21 := by rw [hD]; exact dg_leU u h1
  obtain ⟨fin, hfin⟩ : ∃ fin, fin = EncRes u := ⟨_, rfl⟩
  obtain ⟨s, hs⟩ : ∃ s : ByteArray, s = ⟨(Lib.decDigits u).toArray⟩ := ⟨_, rfl⟩
  have hby : bytesOf s = D := by rw [hs, dg_bytes, hD]
  have hsz : s.size = D.length := by rw [← bytesOf_length, hby]
  have FI : Hid (Calls Tryd.prog 47 #[.int .u64 u, .int .i64 10] w fun e w' => e = .returned (.string s) ∧ Below w.heap.size w w') := Lib.hid (strconv_FormatUint.calls u 10 s w (by unfold strconv_FormatUint.f; rw [if_pos rfl, if_pos ⟨by omega, by omega⟩, hs]; rfl) htab)
  have HFIN := Lib.hid (show fin = toNum (trimZ D) false (D.length - 1) by
    rw [hfin, hD]
    unfold EncRes
    rw [show decide ((u : Int) < 0) = false from by rw [decide_eq_false_iff_not]; omega])
  rw [← hfin]
  have ht := tzc_le D
  have HT1 := Lib.hid (tzc_get D)
  have HT2 := Lib.hid (tzc_end D)
  have HTR := Lib.hid (show trimZ D = D.take (D.length - tzc D) from rfl)
  generalize tzc D = t at *
  generalize trimZ D = E at *
  have HSZ := Lib.hid hsz
  have HBY := Lib.hid hby
  clear hs hsz hby hfin hD htab
  go_enter Tryd.func38, Tryd.ntmps38
  go_wp2_with fail
  refine FI.out.mono ?_
  rintro e w1 ⟨rfl, hB1⟩
  obtain ⟨w2, c, hcv, hsc, hB2, hg2, hcell⟩ := conv_bytes (P := Tryd.prog) w1 9 22 Tryd.underlying9 Tryd.underlying22 Tryd.underlying5 s (by rw [HSZ.out]; omega)
  have hsz := HSZ.out
  have hby := HBY.out
  rw [hsz] at hsc hcv
  rw [hby, hsz] at hcell
  have HB := Lib.hid (bl_trans hB1 hB2)
  have HC := Lib.hid hcell
  clear hB1 hB2 hcell hby
  generalize w1.heap.size = g at *
  have q1 : 1 ≤ c := by omega
  go_wp2
  go_loop [5, 6] (fun v5 v6 => ∃ j : Nat, j ≤ t ∧ v5 = .int .i64 j ∧ v6 = .int .i64 ((D.length : Int) - 1 - (j : Int))) (fun v5 _ => D.length + 1 - (intOf v5).toNat)
  case atStart => exact ⟨0, Nat.zero_le _, rfl, by simp⟩
  case round =>
    obtain ⟨j, hj, rfl, rfl⟩ := hrel
    by_cases hjt : j < t
    · have hx := HT1.out j hjt
      have hc := HC.out (D.length - 1 - j) (by omega)
      generalize D.getD (D.length - 1 - j) 0 = x at hc hx
      go_wp2
      go_round
      case rel => exact ⟨j + 1, by omega, by go_num, by go_num⟩
      case measure => simp [intOf]; omega
    · obtain rfl : j = t := by omega
      have hEl : Hid (E.length = D.length - j) := Lib.hid (by rw [HTR.out, List.length_take]; omega)
      have hEg : ∀ i, i < D.length - j → E.getD i 0 = D.getD i 0 := fun i hi => by
        rw [HTR.out]
        simp only [List.getD_eq_getElem?_getD]
        rw [List.getElem?_take, if_pos hi]
      have TN2 : Hid (Calls Tryd.prog 33 #[.slice (some ⟨g, 0, none⟩) (D.length - j) c, .bool false, .int .i64 ((D.length : Int) - 1)] w2 (RetRow fin w2)) := Lib.hid (by
        have T := converters_ToNumber.calls (some ⟨g, 0, none⟩) c E false ((D.length : Int) - 1) fin w2 (C_of (by rw [hEl.out]; omega) (fun i hi => by rw [hEl.out] at hi; rw [hEg i hi, Nat.zero_add]; exact HC.out i (by omega))) (by rw [hEl.out]; omega) (by unfold converters_ToNumber.f; rw [if_pos (by rw [hEl.out]; omega), if_pos (by omega), HFIN.out])
        rw [hEl.out] at T
        exact T)
      clear hEg
      have hcc : D.length - j ≤ c := by omega
      rcases Nat.lt_or_ge j D.length with hjD | hjD
      · have hx := HT2.out hjD
        have hc := HC.out (D.length - 1 - j) (by omega)
        generalize D.getD (D.length - 1 - j) 0 = x at hc hx
        go_wp2_with fail
        refine TN2.out.mono ?_
        rintro e w3 ⟨v0, rfl, hR, hB3⟩
        go_wp2
        go_ret
        exact ⟨v0, rfl, Kd.R_lower hR HB.out.size, bl_trans HB.out hB3⟩
      · have hz0 : D.length - j = 0 := by omega
        have T2 := TN2.out
        rw [hz0] at T2
        have HT4 := Lib.hid T2
        clear T2 hz0 TN2
        go_wp2_with fail
        refine HT4.out.mono ?_
        rintro e w3 ⟨v0, rfl, hR, hB3⟩
        go_wp2
        go_ret
        exact ⟨v0, rfl, Kd.R_lower hR HB.out.size, bl_trans HB.out hB3⟩

def converters_EncodeUint64.f (a0 : Int) : Option (List Int) := if 0 ≤ a0 ∧ a0 ≤ 18446744073709551615 then some (EncRes a0) else none
theorem converters_EncodeUint64.calls (a0 : Int) (r : List Int) (w : World) (h : converters_EncodeUint64.f a0 = some r) (htab : Tab w) :
    Calls Tryd.prog 38 #[.int .u64 a0] w fun e w' => ∃ v0_ : Value, e = .returned (v0_) ∧ Kd.R (Kd.int .u8) 5 w' w.heap.size (fun _ => True) v0_ r ∧ Below w.heap.size w w' := by
  unfold converters_EncodeUint64.f at h
  split at h
  · rename_i h1
    obtain rfl := Option.some.inj h
    obtain ⟨u, rfl⟩ := Int.eq_ofNat_of_zero_le h1.1
    exact encodeUint64 u w (by omega) htab
  · cases h
end Go.Proofs.YtepooaejlofkkaaDoor.X
