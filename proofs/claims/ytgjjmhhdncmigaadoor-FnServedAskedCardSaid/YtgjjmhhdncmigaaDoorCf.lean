/- spec.ConfigPlain and spec.configLow: a text, byte by byte. -/
import Derived.Test.YtgjjmhhdncmigaaDoorProg
import Derived.Test.YtgjjmhhdncmigaaDoorKit
namespace Go.Proofs.YtgjjmhhdncmigaaDoor.X
open Go.RowKit Go.Proofs.YtgjjmhhdncmigaaDoorW.PrintWords Go.Proofs.YtgjjmhhdncmigaaDoorW.PrintMore
attribute [local go_sem] setCell_drewN alloc_drewN
set_option linter.unusedVariables false
set_option linter.unusedSimpArgs false

/-- '[]byte(s)': the row, which may be written. -/
theorem conv_row {P : Program} (w1 : World) (src dst : TypeId) {u : TypeDesc} (hs : P.underlying src = some u) (hd : P.underlying dst = some (.slice 5)) (he : P.underlying 5 = some (.int .u8)) (s : ByteArray) :
    ∃ (w2 : World) (c : Nat) (cs : Array Value), (convert src dst (.string s)).run P w1 = .ok (.slice (some ⟨w1.heap.size, 0, none⟩) s.size c) w2 ∧ s.size ≤ c ∧ Below w1.heap.size w1 w2 ∧
      w2.heap[w1.heap.size]? = some (.cells cs 5 (cs.size, cs.size + 1)) ∧ ∀ i : Nat, i < s.size → cs[i]? = some (.int .u8 ((bytesOf s).getD i 0)) := by
  refine ⟨_, _, Lib.bytesCells w1 5 s, print_bytes src dst 5 hs hd he s w1, grownCap_ge _ _ _ _, bytes_below (Below.refl _ _) (Nat.le_refl _) 5 s, Lib.bytesWorld_at_new w1 5 s, fun i hi => ?_⟩
  have h1 := Lib.bytesWorld_cell w1 5 s i hi
  rw [xb_cell (Lib.bytesWorld_at_new w1 5 s)] at h1
  rw [h1]
  have h' : i < s.data.toList.length := by rw [data_length]; exact hi
  simp [bytesOf, List.getD_eq_getElem?_getD, List.getElem?_eq_getElem h']
theorem blk_free2 {w : World} {b n m : Nat} {cs : Array Value} {t : TypeId} (h : w.heap[b]? = some (.cells cs t (n, m))) (i : Nat) (hi : i < n) : w.frozen? ⟨b, i, none⟩ = false := by
  simp [World.frozen?, h]
  omega
theorem byt_bytesOf (s : ByteArray) : Byt (bytesOf s) := by
  intro x hx
  unfold bytesOf at hx
  obtain ⟨b, _, rfl⟩ := List.mem_map.1 hx
  have := b.toNat_lt
  omega
def spec_ConfigPlain.f (a0 : ByteArray) : Option Bool := if a0.size ≤ 1099511627776 then some (decide (∀ x ∈ bytesOf a0, x < 128)) else none
theorem plain_part {l : List Int} (h : ∀ i, i < l.length → l.getD i 0 < 128) : ∀ x ∈ l, x < 128 := by
  intro x hx
  obtain ⟨i, hi, rfl⟩ := List.getElem_of_mem hx
  have := h i hi
  rwa [List.getD_eq_getElem?_getD, List.getElem?_eq_getElem hi] at this
set_option maxHeartbeats 2000000 in
set_option maxRecDepth 100000 in
theorem spec_ConfigPlain.calls (a0 : ByteArray) (r : Bool) (w : World) (h : spec_ConfigPlain.f a0 = some r) :
    Calls Tryd.prog 24 #[.string a0] w fun e w' => e = .returned (.bool r) ∧ Below w.heap.size w w' := by
  unfold spec_ConfigPlain.f at h
  split at h
  · rename_i hsz
    have hr := Lib.hid (Option.some.inj h)
    clear h
    obtain ⟨w2, c, cs, hcv, hsc, hB2, hblk, hcell⟩ := conv_row (P := Tryd.prog) w 9 60 Tryd.underlying9 Tryd.underlying60 Tryd.underlying5 a0
    have hlen := bytesOf_length a0
    have hbyt := byt_bytesOf a0
    generalize bytesOf a0 = l at *
    generalize a0.size = n at *
    have HB := Lib.hid hB2
    have HC := Lib.hid (fun i hi => (xb_cell hblk i).trans (hcell i hi))
    have HL := Lib.hid hlen
    have HY := Lib.hid hbyt
    clear hB2 hblk hcell hbyt hlen
    generalize w.heap.size = g at *
    go_enter Tryd.func24, Tryd.ntmps24
    go_wp2
    go_loop [8] (fun v8 => ∃ i : Nat, i ≤ n ∧ v8 = .int .i64 i ∧ ∀ j, j < i → l.getD j 0 < 128) (fun v8 => n - (intOf v8).toNat)
    case atStart => exact ⟨0, Nat.zero_le _, rfl, fun j hj => absurd hj (Nat.not_lt_zero j)⟩
    case round =>
      obtain ⟨i, hi, rfl, hall⟩ := hrel
      have HA := Lib.hid hall
      clear hall
      by_cases hlt : i < n
      · have x0 := HC.out i hlt
        have hx := HY.out.get i
        have HN : Hid (l.getD i 0 < 128 → ∀ j, j < i + 1 → l.getD j 0 < 128) := Lib.hid fun e j hj => by
          by_cases h : j < i
          · exact HA.out j h
          · obtain rfl : j = i := by omega
            exact e
        have HF : Hid (¬ l.getD i 0 < 128 → r = false) := Lib.hid fun e => by
          rw [← hr.out, decide_eq_false_iff_not]
          intro ha
          refine e (ha _ ?_)
          rw [List.getD_eq_getElem?_getD, List.getElem?_eq_getElem (by rw [HL.out]; exact hlt)]
          exact List.getElem_mem _
        generalize l.getD i 0 = x at *
        by_cases hsm : x < 128
        · go_wp2
          go_round
          case rel => exact ⟨i + 1, by omega, by go_num, HN.out hsm⟩
          case measure => simp [intOf]; omega
        · have hrf := HF.out hsm
          subst hrf
          go_wp2
          go_ret
          exact ⟨rfl, HB.out⟩
      · obtain rfl : i = n := by omega
        have hrt : r = true := by
          rw [← hr.out, decide_eq_true_eq]
          exact plain_part (fun j hj => HA.out j (by rw [HL.out] at hj; exact hj))
        subst hrt
        go_wp2
        go_ret
        exact ⟨rfl, HB.out⟩
  · cases h
/-- A letter made small. -/
def lowc (x : Int) : Int := if 65 ≤ x ∧ x ≤ 90 then x + 32 else x
def spec_configLow.f (a0 : ByteArray) : Option ByteArray := if a0.size ≤ 1099511627776 then some (strOfNums ((bytesOf a0).map lowc)) else none
/-- How far the row's letters are small. -/
def LowTo (l : List Int) (g n i : Nat) (w wr : World) : Prop :=
  Below w.heap.size w wr ∧ ∃ cs : Array Value, wr.heap[g]? = some (.cells cs 5 (cs.size, cs.size + 1)) ∧ ∀ j : Nat, j < n → cs[j]? = some (.int .u8 (if j < i then lowc (l.getD j 0) else l.getD j 0))
theorem LowTo.skip {l : List Int} {g n i : Nat} {w wr : World} (h : LowTo l g n i w wr) (hl : lowc (l.getD i 0) = l.getD i 0) : LowTo l g n (i + 1) w wr := by
  obtain ⟨hB, cs, h1, h2⟩ := h
  refine ⟨hB, cs, h1, fun j hj => ?_⟩
  rw [h2 j hj]
  by_cases h3 : j < i
  · rw [if_pos h3, if_pos (by omega)]
  · rw [if_neg h3]
    by_cases h4 : j < i + 1
    · obtain rfl : j = i := by omega
      rw [if_pos h4, hl]
    · rw [if_neg h4]
theorem LowTo.set {l : List Int} {g n i : Nat} {w wr : World} {v : Int} (h : LowTo l g n i w wr) (hi : i < n) (hg : w.heap.size ≤ g) (hl : lowc (l.getD i 0) = v) : LowTo l g n (i + 1) w (wr.setCell ⟨g, i, none⟩ (.int .u8 v)) := by
  obtain ⟨hB, cs, h1, h2⟩ := h
  have hsz : i < cs.size := by have := h2 i hi; exact (Array.getElem?_eq_some_iff.1 this).1
  refine ⟨hB.setCell hg _, cs.setIfInBounds i (.int .u8 v), by rw [xb_set h1, Array.size_setIfInBounds], fun j hj => ?_⟩
  by_cases h4 : j = i
  · subst h4
    rw [Array.getElem?_setIfInBounds_self_of_lt hsz, if_pos (by omega), hl]
  · rw [Array.getElem?_setIfInBounds_ne (fun e => h4 e.symm), h2 j hj]
    by_cases h3 : j < i
    · rw [if_pos h3, if_pos (by omega)]
    · rw [if_neg h3, if_neg (by omega)]
theorem map_getD (l : List Int) (i : Nat) (hi : i < l.length) : (l.map lowc).getD i 0 = lowc (l.getD i 0) := by
  simp only [List.getD_eq_getElem?_getD, List.getElem?_map, List.getElem?_eq_getElem hi, Option.map_some, Option.getD_some]
set_option maxHeartbeats 4000000 in
set_option maxRecDepth 100000 in
theorem spec_configLow.calls (a0 : ByteArray) (r : ByteArray) (w : World) (h : spec_configLow.f a0 = some r) :
    Calls Tryd.prog 26 #[.string a0] w fun e w' => e = .returned (.string r) ∧ Below w.heap.size w w' := by
  unfold spec_configLow.f at h
  split at h
  · rename_i hsz
    have hr := Lib.hid (Option.some.inj h)
    clear h
    obtain ⟨w2, c, cs, hcv, hsc, hB2, hblk, hcell⟩ := conv_row (P := Tryd.prog) w 9 60 Tryd.underlying9 Tryd.underlying60 Tryd.underlying5 a0
    have hlen := bytesOf_length a0
    have hbyt := byt_bytesOf a0
    generalize bytesOf a0 = l at *
    generalize a0.size = n at *
    have HL := Lib.hid hlen
    have HY := Lib.hid hbyt
    obtain ⟨g, hg⟩ : ∃ g, g = w.heap.size := ⟨_, rfl⟩
    rw [← hg] at hcv hblk
    have HLow : Hid (LowTo l g n 0 w w2) := Lib.hid ⟨hB2, cs, hblk, fun j hj => by rw [if_neg (Nat.not_lt_zero j)]; exact hcell j hj⟩
    have HG := Lib.hid hg
    clear hB2 hblk hcell hbyt hlen hg
    go_enter Tryd.func26, Tryd.ntmps26
    go_wp2
    go_loopw [10] (fun v10 wr => ∃ i : Nat, i ≤ n ∧ v10 = .int .i64 i ∧ LowTo l g n i w wr) (fun v10 _ => n - (intOf v10).toNat)
    case atStart => exact ⟨0, Nat.zero_le _, rfl, HLow.out⟩
    case round =>
      obtain ⟨i, hi, rfl, hlow⟩ := hrel
      have HW := Lib.hid hlow
      by_cases hlt : i < n
      · obtain ⟨hB, cu, hcu, hcx⟩ := hlow
        have x0 := (xb_cell hcu i).trans (hcx i hlt)
        rw [if_neg (Nat.lt_irrefl i)] at x0
        have hfr := blk_free2 hcu i (by have := hcx i hlt; exact (Array.getElem?_eq_some_iff.1 this).1)
        have hx := HY.out.get i
        have HS := Lib.hid (fun hl => HW.out.skip (i := i) hl)
        have HT := Lib.hid (fun v (hl : lowc (l.getD i 0) = v) => HW.out.set (i := i) hlt (by rw [HG.out]; exact Nat.le_refl _) hl)
        clear hB hcu hcx
        generalize l.getD i 0 = x at *
        by_cases h1 : 65 ≤ x
        · by_cases h2 : x ≤ 90
          · go_wp2
            go_roundw
            case rel => exact ⟨i + 1, by omega, by go_num, HT.out _ (by unfold lowc; rw [if_pos ⟨h1, h2⟩])⟩
            case measure => simp [intOf]; omega
          · go_wp2
            go_roundw
            case rel => exact ⟨i + 1, by omega, by go_num, HS.out (by unfold lowc; rw [if_neg (by omega)])⟩
            case measure => simp [intOf]; omega
        · go_wp2
          go_roundw
          case rel => exact ⟨i + 1, by omega, by go_num, HS.out (by unfold lowc; rw [if_neg (by omega)])⟩
          case measure => simp [intOf]; omega
      · obtain rfl : i = n := by omega
        obtain ⟨hB, cu, hcu, hcx⟩ := hlow
        have hC : Kd.C (Kd.int .u8) wr (some ⟨g, 0, none⟩) (l.map lowc).length (l.map lowc) := C_of (by rw [List.length_map, HL.out]; omega) (fun j hj => by
          rw [List.length_map, HL.out] at hj
          rw [Nat.zero_add, xb_cell hcu, hcx j hj, if_pos hj, map_getD l j (by rw [HL.out]; exact hj)])
        have hst := Kd.C_string (P := Tryd.prog) (A := some ⟨g, 0, none⟩) (c := c) Tryd.underlying60 Tryd.underlying5 Tryd.underlying9 hC
        rw [List.length_map, HL.out, hr.out] at hst
        have HB := Lib.hid hB
        clear hB hcu hcx hC
        go_wp2
        go_ret
        exact ⟨rfl, HB.out⟩
  · cases h
end Go.Proofs.YtgjjmhhdncmigaaDoor.X
