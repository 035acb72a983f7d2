/- spec.Network: the address of a server, by the reference. -/
import Derived.Test.YtipkpgmgjdfgoaaDoorTc
import Derived.Test.YtipkpgmgjdfgoaaDoorCf
import Derived.Test.YtipkpgmgjdfgoaaDoorZD1
import Derived.Deep.QuietTactic
import Derived.Deep.RegionHeld3
namespace Go.Proofs.YtipkpgmgjdfgoaaDoor.X
open Go.RowKit Go.Proofs.YtipkpgmgjdfgoaaDoorW.PrintWords Go.Proofs.YtipkpgmgjdfgoaaDoorW.PrintMore
attribute [local go_sem] setCell_drewN alloc_drewN
set_option linter.unusedVariables false
set_option linter.unusedSimpArgs false
theorem index_far (c : Int) : ∀ (k : Nat) (l : List Int) (i : Nat), l.length - i < k → i ≤ l.length → l.length ≤ 9223372036854775000 →
    ∃ r : Int, ZD.slices_Index_byte_byte.l0 k l c (l.length : Int) (i : Int) = some r ∧ (decide (r ≥ 0) = decide (c ∈ l.drop i)) := by
  intro k
  induction k with
  | zero => intro l i h _ _; omega
  | succ k ih =>
    intro l i h hi hm
    simp only [ZD.slices_Index_byte_byte.l0]
    by_cases hlt : i < l.length
    · rw [if_pos (by omega), if_pos (by omega), if_pos (by omega)]
      have hd : l.drop i = l[i] :: l.drop (i + 1) := List.drop_eq_getElem_cons hlt
      have hr : rd l (i : Int) = l[i] := by unfold rd; rw [Int.toNat_natCast, List.getD_eq_getElem?_getD, List.getElem?_eq_getElem hlt]; rfl
      rw [hr]
      by_cases hc : c = l[i]
      · rw [if_pos hc]
        refine ⟨_, rfl, ?_⟩
        rw [hd]
        rw [decide_eq_true (by omega : (i : Int) ≥ 0), decide_eq_true (by rw [hc]; exact List.mem_cons_self)]
      · rw [if_neg hc, show wrap64 ((i : Int) + 1) = ((i + 1 : Nat) : Int) from by unfold wrap64; omega]
        obtain ⟨r, h1, h2⟩ := ih l (i + 1) (by omega) (by omega) hm
        refine ⟨r, h1, ?_⟩
        rw [h2, hd]
        simp only [List.mem_cons, hc, false_or]
    · rw [if_neg (by omega)]
      refine ⟨_, rfl, ?_⟩
      rw [List.drop_eq_nil_of_le (by omega)]
      simp
theorem contains_far (l : List Int) (c : Int) (hm : l.length ≤ 9223372036854775000) : ZD.slices_Contains_byte_byte.f (l.length + 1) l c = some (decide (c ∈ l)) := by
  unfold ZD.slices_Contains_byte_byte.f ZD.slices_Index_byte_byte.f
  obtain ⟨r, h1, h2⟩ := index_far c (l.length + 1) l 0 (by omega) (by omega) hm
  rw [show ((0 : Nat) : Int) = 0 from rfl] at h1
  rw [h1, Option.bind_some, h2, List.drop_zero]
def spec_Network.f (a0_0 a0_1 : ByteArray) (a0_2 : Int) : Option ByteArray :=
  if a0_1.size ≤ 1099511627776 then (strconv_Itoa.f a0_2).bind fun t => if t.size ≤ 1099511627776 then some (((if 58 ∈ bytesOf a0_1 then (⟨#[91]⟩ : ByteArray) ++ a0_1 ++ (⟨#[93]⟩ : ByteArray) else a0_1) ++ (⟨#[58]⟩ : ByteArray)) ++ t) else none else none
set_option maxHeartbeats 4000000 in
set_option maxRecDepth 100000 in
theorem spec_Network.calls (a0_0 a0_1 : ByteArray) (a0_2 : Int) (r : ByteArray) (w : World) (h : spec_Network.f a0_0 a0_1 a0_2 = some r) (htab : Tab w) :
    Calls Tryd.prog 26 #[.agg #[.string a0_0, .string a0_1, .int .i64 a0_2]] w fun e w' => e = .returned (.string r) ∧ Below w.heap.size w w' := by
  unfold spec_Network.f at h
  split at h
  · rename_i hsz
    obtain ⟨t, ht, hr⟩ := Option.bind_eq_some_iff.1 h
    have htz : t.size ≤ 1099511627776 := by
      by_cases hz : t.size ≤ 1099511627776
      · exact hz
      · rw [if_neg hz] at hr; cases hr
    rw [if_pos htz] at hr
    have HR := Lib.hid (Option.some.inj hr)
    have HI := Lib.hid (fun W (hT : Tab W) => strconv_Itoa.calls a0_2 t W ht hT)
    have HT := Lib.hid (tab_all htab)
    clear h ht hr htab
    have hB0 : Below w.heap.size w (w.alloc (.cells #[.string a0_0, .string a0_1, .int .i64 a0_2] 30)) := (Below.refl _ _).alloc (Nat.le_refl _) _
    have hz0 : (w.alloc (.cells #[.string a0_0, .string a0_1, .int .i64 a0_2] 30)).heap.size = w.heap.size + 1 := World.size_alloc _ _
    have c2 : (w.alloc (.cells #[.string a0_0, .string a0_1, .int .i64 a0_2] 30)).cell? ⟨w.heap.size, 2, none⟩ = some (.int .i64 a0_2) := by rw [xb_cell (xb_new _ _)]; rfl
    obtain ⟨w2, c, cs, hcv, hsc, hB2, hblk, hcell⟩ := conv_row (P := Tryd.prog) (w.alloc (.cells #[.string a0_0, .string a0_1, .int .i64 a0_2] 30)) 9 43 Tryd.underlying9 Tryd.underlying43 Tryd.underlying5 a0_1
    have hlen := bytesOf_length a0_1
    have hC : Kd.C (Kd.int .u8) w2 (some ⟨w.heap.size + 1, 0, none⟩) (bytesOf a0_1).length (bytesOf a0_1) := C_of (by omega) (fun j hj => by
      rw [Nat.zero_add, ← hz0, xb_cell hblk]; exact hcell j (by omega))
    have HS := Lib.hid (ZD.slices_Contains_byte_byte.calls ((bytesOf a0_1).length + 1) (some ⟨w.heap.size + 1, 0, none⟩) c (bytesOf a0_1) 58 _ w2 hC (by omega) (contains_far _ 58 (by omega)))
    rw [hlen] at HS
    have c2' : w2.cell? ⟨w.heap.size, 2, none⟩ = some (.int .i64 a0_2) := bl_cell hB2 c2
    have HB2 := Lib.hid (hB0.trans (hB2.mono (by omega)))
    rw [hz0] at hcv
    clear hB0 hB2 hblk hcell hC hlen hsc c2 hz0
    by_cases hin : 58 ∈ bytesOf a0_1
    · have HR' := Lib.hid (HR.out)
      rw [if_pos hin] at HR'
      rw [decide_eq_true hin] at HS
      clear HR hin
      go_enter Tryd.func26, Tryd.ntmps26
      go_wp2_with (first | (go_at_call 48; refine HS.out.mono ?_; rintro e w3 ⟨rfl, n3, rfl⟩) | (go_at_call 49; refine (HI.out _ (HT.out _ (HB2.out.trans ((bl_drewN w2 n3).mono (by have := HB2.out.size; omega))))).mono ?_; rintro e w4 ⟨rfl, hb3⟩; have HB3 := Lib.hid (HB2.out.trans (((bl_drewN w2 n3).mono (by have := HB2.out.size; omega)).trans (hb3.mono (by have := HB2.out.size; exact this)))); clear hb3))
      go_ret
      exact ⟨by rw [← HR'.out]; rfl, HB3.out⟩
    · have HR' := Lib.hid (HR.out)
      rw [if_neg hin] at HR'
      rw [decide_eq_false hin] at HS
      clear HR hin
      go_enter Tryd.func26, Tryd.ntmps26
      go_wp2_with (first | (go_at_call 48; refine HS.out.mono ?_; rintro e w3 ⟨rfl, n3, rfl⟩) | (go_at_call 49; refine (HI.out _ (HT.out _ (HB2.out.trans ((bl_drewN w2 n3).mono (by have := HB2.out.size; omega))))).mono ?_; rintro e w4 ⟨rfl, hb3⟩; have HB3 := Lib.hid (HB2.out.trans (((bl_drewN w2 n3).mono (by have := HB2.out.size; omega)).trans (hb3.mono (by have := HB2.out.size; exact this)))); clear hb3))
      go_ret
      exact ⟨by rw [← HR'.out]; rfl, HB3.out⟩
  · cases h
end Go.Proofs.YtipkpgmgjdfgoaaDoor.X
