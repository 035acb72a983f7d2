/- FnPrivilegeBits: each privilege is one bit, and all of them are different: the walk. -/
import Derived.Test.YtipkpgmgjdfgoaaDoorTc
import Derived.Test.YtipkpgmgjdfgoaaDoorCf
import Derived.Test.YtipkpgmgjdfgoaaDoorZD1
namespace Go.Proofs.YtipkpgmgjdfgoaaDoor.X
open Go.RowKit Go.Proofs.YtipkpgmgjdfgoaaDoorW.PrintWords Go.Proofs.YtipkpgmgjdfgoaaDoorW.PrintMore
attribute [local go_sem] setCell_drewN alloc_drewN
set_option linter.unusedVariables false
set_option linter.unusedSimpArgs false
namespace Bits
def nums7 : List Int := [32, 64, 4194304, 16777216, 33554432, 67108864, 134217728]
def names7 : List ByteArray := [⟨#[83, 89, 83, 68, 66, 65]⟩, ⟨#[83, 89, 83, 79, 80, 69, 82]⟩, ⟨#[83, 89, 83, 65, 83, 77]⟩, ⟨#[83, 89, 83, 66, 65, 67, 75, 85, 80]⟩, ⟨#[83, 89, 83, 68, 71]⟩, ⟨#[83, 89, 83, 75, 77]⟩, ⟨#[83, 89, 83, 82, 65, 67]⟩]
def psum (j : Nat) : Int := (nums7.take j).foldl (· + ·) 0
theorem len7 : names7.length = 7 := rfl
theorem names_f : ZD.spec_PrivilegeNames.f = some names7 := rfl
theorem name_ok : ∀ j : Fin 7, (names7.getD j.val ByteArray.empty).size ≤ 9 ∧ ∀ i : Fin 9, i.val < (names7.getD j.val ByteArray.empty).size → 65 ≤ (bytesOf (names7.getD j.val ByteArray.empty)).getD i.val 0 ∧ (bytesOf (names7.getD j.val ByteArray.empty)).getD i.val 0 ≤ 90 := by decide +kernel
theorem num_ok : ∀ j : Fin 7, 0 < nums7.getD j.val 0 ∧ nums7.getD j.val 0 ≤ 134217728 ∧ Go.bits .and .i64 (nums7.getD j.val 0) (nums7.getD j.val 0 - 1) = 0 ∧ Go.bits .and .i64 (psum j.val) (nums7.getD j.val 0) = 0 ∧
    Go.bits .or .i64 (psum j.val) (nums7.getD j.val 0) = psum (j.val + 1) ∧ 0 ≤ psum j.val ∧ psum j.val ≤ 268435456 := by decide +kernel
theorem sum_end : psum 7 = 255852640 := by decide +kernel
theorem up_all : ∀ n : Fin 26, Lib.upperB (UInt8.ofNat (65 + n.val)) = UInt8.ofNat (65 + n.val) ∧ Lib.upperB (UInt8.ofNat (97 + n.val)) = UInt8.ofNat (65 + n.val) := by decide +kernel
/-- The row, some of whose letters up to i are small. -/
def MaskTo (l : List Int) (g n i : Nat) (w wr : World) : Prop :=
  Below w.heap.size w wr ∧ ∃ (m : List Int) (cs : Array Value), wr.heap[g]? = some (.cells cs 5 (cs.size, cs.size + 1)) ∧ m.length = n ∧
    (∀ j : Nat, j < n → cs[j]? = some (.int .u8 (m.getD j 0))) ∧ (∀ j : Nat, j < n → m.getD j 0 = l.getD j 0 ∨ m.getD j 0 = l.getD j 0 + 32) ∧ ∀ j : Nat, i ≤ j → j < n → m.getD j 0 = l.getD j 0
theorem MaskTo.skip {l : List Int} {g n i : Nat} {w wr : World} (h : MaskTo l g n i w wr) : MaskTo l g n (i + 1) w wr := by
  obtain ⟨hB, m, cs, h1, h2, h3, h4, h5⟩ := h
  exact ⟨hB, m, cs, h1, h2, h3, h4, fun j hj hn => h5 j (by omega) hn⟩
theorem MaskTo.set {l : List Int} {g n i : Nat} {w wr : World} (h : MaskTo l g n i w wr) (hi : i < n) (hg : w.heap.size ≤ g) : MaskTo l g n (i + 1) w (wr.setCell ⟨g, i, none⟩ (.int .u8 (l.getD i 0 + 32))) := by
  obtain ⟨hB, m, cs, h1, h2, h3, h4, h5⟩ := h
  have hsz : i < cs.size := by have := h3 i hi; exact (Array.getElem?_eq_some_iff.1 this).1
  have hm : ∀ j, (m.set i (l.getD i 0 + 32)).getD j 0 = if i = j then l.getD i 0 + 32 else m.getD j 0 := fun j => by
    simp only [List.getD_eq_getElem?_getD, List.getElem?_set]
    by_cases e : i = j
    · subst e; simp [h2, hi]
    · simp [e]
  refine ⟨hB.setCell hg _, m.set i (l.getD i 0 + 32), cs.setIfInBounds i (.int .u8 (l.getD i 0 + 32)), by rw [xb_set h1, Array.size_setIfInBounds], by rw [List.length_set, h2], fun j hj => ?_, fun j hj => ?_, fun j hj hn => ?_⟩
  · rw [hm]
    by_cases e : i = j
    · subst e; rw [Array.getElem?_setIfInBounds_self_of_lt hsz, if_pos rfl]
    · rw [Array.getElem?_setIfInBounds_ne e, if_neg e, h3 j hj]
  · rw [hm]
    by_cases e : i = j
    · subst e; rw [if_pos rfl]; exact .inr rfl
    · rw [if_neg e]; exact h4 j hj
  · rw [hm, if_neg (by omega)]; exact h5 j (by omega) hn
theorem up_str (nm : ByteArray) (m : List Int) (hm : m.length = nm.size) (hl : ∀ j, j < nm.size → 65 ≤ (bytesOf nm).getD j 0 ∧ (bytesOf nm).getD j 0 ≤ 90) (h : ∀ j, j < nm.size → m.getD j 0 = (bytesOf nm).getD j 0 ∨ m.getD j 0 = (bytesOf nm).getD j 0 + 32) :
    Lib.toUpperA (strOfNums m).data.toList = nm.data.toList ∧ ∀ x ∈ (strOfNums m).data.toList, x.toNat < 128 := by
  have hlen := data_length nm
  have hd : (strOfNums m).data.toList = m.map fun n => UInt8.ofNat n.toNat := by unfold strOfNums; simp
  rw [hd]
  have hb : ∀ j (hj : j < nm.size), (bytesOf nm).getD j 0 = ((nm.data.toList[j]'(by omega)).toNat : Int) := fun j hj => by
    unfold bytesOf
    rw [List.getD_eq_getElem?_getD, List.getElem?_map, List.getElem?_eq_getElem (by omega)]
    rfl
  have hmj : ∀ j (hj : j < m.length), m.getD j 0 = m[j] := fun j hj => by rw [List.getD_eq_getElem?_getD, List.getElem?_eq_getElem hj]; rfl
  constructor
  · unfold Lib.toUpperA
    apply List.ext_getElem
    · simp; omega
    · intro j h1 h2
      simp only [List.length_map] at h1
      simp only [List.getElem_map]
      have a := hl j (by omega)
      have b := h j (by omega)
      rw [hb j (by omega)] at a b
      rw [hmj j h1] at b
      have hu := up_all ⟨nm.data.toList[j].toNat - 65, by omega⟩
      simp only [show 65 + (nm.data.toList[j].toNat - 65) = nm.data.toList[j].toNat by omega, UInt8.ofNat_toNat] at hu
      rcases b with b | b
      · rw [b, Int.toNat_natCast, UInt8.ofNat_toNat]; exact hu.1
      · rw [b, show ((nm.data.toList[j].toNat : Int) + 32).toNat = 97 + (nm.data.toList[j].toNat - 65) by omega]; exact hu.2
  · intro x hx
    obtain ⟨v, hv, rfl⟩ := List.mem_map.1 hx
    obtain ⟨j, hj, rfl⟩ := List.getElem_of_mem hv
    have a := hl j (by omega)
    have b := h j (by omega)
    rw [hmj j hj] at b
    rw [UInt8.toNat_ofNat']
    omega
theorem priv_f (j : Fin 7) (s : ByteArray) (hs : s.size ≤ 9) (h : Lib.toUpperA s.data.toList = (names7.getD j.val ByteArray.empty).data.toList) (h128 : ∀ x ∈ s.data.toList, x.toNat < 128) : ZD.impl_Privilege.f s = some (nums7.getD j.val 0) := by
  unfold ZD.impl_Privilege.f ZD.configurations_DBAPrivilegeFromString.f strings_ToUpper.f
  rw [if_pos (by omega), if_pos h128, h]
  clear h h128 hs s
  revert j
  decide +kernel
theorem C_strings {w : World} {A : Option Addr} {n : Nat} {l : List ByteArray} (h : Kd.C Kd.string w A n l) (i : Int) (h0 : 0 ≤ i) (h1 : i < n) : ∃ ad, A = some ad ∧ w.cell? (ad.add i.toNat) = some (.string (rdOf ByteArray.empty l i)) := Kd.at_string h i h0 h1
end Bits
def laws_FnPrivilegeBits.f (a0 : Int) : Option Bool := if 0 ≤ a0 ∧ a0 ≤ 65535 then some true else none
set_option maxHeartbeats 8000000 in
set_option maxRecDepth 100000 in
theorem laws_FnPrivilegeBits.calls (a0 : Int) (r : Bool) (w : World) (h : laws_FnPrivilegeBits.f a0 = some r) (htab : Tab w) :
    Calls Tryd.prog 6 #[.int .u16 a0] w fun e w' => e = .returned (.bool r) ∧ Below w.heap.size w w' := by
  unfold laws_FnPrivilegeBits.f at h
  split at h
  · rename_i ha
    obtain ⟨ha0, ha1⟩ := ha
    obtain rfl := Option.some.inj h
    have HT := Lib.hid (tab_all htab)
    clear h htab
    go_enter Tryd.func6, Tryd.ntmps6
    go_wp2_with (go_at_call 23; (with_reducible refine (ZD.spec_PrivilegeNames.calls _ _ Bits.names_f).mono ?_); rintro e w1 ⟨v0, rfl, hR, hb1⟩; obtain ⟨A, c, hv, hc, hC⟩ := Kd.R_reads hR; rw [Bits.len7] at hv hC; subst hv; have HC := Lib.hid hC; have HB1 := Lib.hid hb1; clear hR hC hb1)
    go_loopw [3, 11] (fun v3 v11 wr => ∃ x : Int, 0 ≤ x ∧ x ≤ 7 ∧ v11 = .int .i64 x ∧ v3 = .int .i64 (Bits.psum x.toNat) ∧ Hid (Below w.heap.size w wr) ∧ Hid (Kd.C Kd.string wr A 7 Bits.names7)) (fun _ v11 _ => (7 - intOf v11).toNat)
    case atStart => exact ⟨0, by omega, by omega, rfl, rfl, HB1, HC⟩
    case round =>
      obtain ⟨x, hx0, hx7, rfl, rfl, HB, HK⟩ := hrel
      by_cases hlt : x < 7
      · have hj : x.toNat < 7 := by omega
        obtain ⟨ad, had, hnm⟩ := Bits.C_strings HK.out x hx0 hlt
        subst had
        have hno := Bits.name_ok ⟨x.toNat, hj⟩
        obtain ⟨hn0, hn1, hn2, hn3, hn4, hn5, hn6⟩ := Bits.num_ok ⟨x.toNat, hj⟩
        have HP := Lib.hid (fun s hs h1 h2 => Bits.priv_f ⟨x.toNat, hj⟩ s hs h1 h2)
        have HS := Lib.hid (show Bits.psum (x + 1).toNat = Bits.psum (x.toNat + 1) by rw [show (x + 1).toNat = x.toNat + 1 by omega])
        simp only at hno hn0 hn1 hn2 hn3 hn4 hn5 hn6 HP
        change wr.cell? _ = some (.string (Bits.names7.getD x.toNat ByteArray.empty)) at hnm
        generalize Bits.names7.getD x.toNat ByteArray.empty = nm at *
        generalize Bits.nums7.getD x.toNat 0 = num at *
        generalize Bits.psum x.toNat = sm at *
        have hn2' := Lib.hid hn2
        have hn3' := Lib.hid hn3
        have hn4' := Lib.hid hn4
        clear hn2 hn3 hn4
        obtain ⟨hnz, hnl0⟩ := hno
        have hnl : ∀ i : Nat, i < nm.size → 65 ≤ (bytesOf nm).getD i 0 ∧ (bytesOf nm).getD i 0 ≤ 90 := fun i hi => hnl0 ⟨i, by omega⟩ hi
        clear hnl0
        obtain ⟨w2, cc, cs, hcv, hsc, hB2, hblk, hcell⟩ := conv_row (P := Tryd.prog) wr 9 43 Tryd.underlying9 Tryd.underlying43 Tryd.underlying5 nm
        have hlen := bytesOf_length nm
        have HL := Lib.hid hlen
        have HU := Lib.hid (fun m hm h => Bits.up_str nm m hm hnl h)
        have HV := Lib.hid hnl
        clear hnl hlen
        generalize bytesOf nm = l at *
        generalize hns : nm.size = n at *
        have HMask : Hid (Bits.MaskTo l wr.heap.size n 0 wr w2) := Lib.hid ⟨hB2, l, cs, hblk, HL.out, hcell, fun j hj => .inl rfl, fun j _ _ => rfl⟩
        clear hB2 hblk hcell hns
        obtain ⟨g, hg⟩ : ∃ g, g = wr.heap.size := ⟨_, rfl⟩
        rw [← hg] at hcv HMask
        have HG := Lib.hid hg
        clear hg
        go_wp2
        go_loopw [19] (fun v19 wq => ∃ i : Nat, i ≤ n ∧ v19 = .int .i64 i ∧ Hid (Bits.MaskTo l g n i wr wq)) (fun v19 _ => n - (intOf v19).toNat)
        case atStart => exact ⟨0, Nat.zero_le _, rfl, HMask⟩
        case round =>
          obtain ⟨i, hi, rfl, HM⟩ := hrel
          by_cases hlt2 : i < n
          · obtain ⟨hB, m, cu, hcu, hml, hcx, _, hm5⟩ := HM.out
            have x0 := (xb_cell hcu i).trans (hcx i hlt2)
            rw [hm5 i (Nat.le_refl _) hlt2] at x0
            have hfr := blk_free2 hcu i (by have := hcx i hlt2; exact (Array.getElem?_eq_some_iff.1 this).1)
            obtain ⟨y0, y1⟩ := HV.out i hlt2
            have HT2 := Lib.hid (HM.out.set (i := i) hlt2 (by rw [HG.out]; exact Nat.le_refl _))
            have HS2 := Lib.hid HM.out.skip
            clear hB hcu hcx hm5 hml
            generalize l.getD i 0 = y at *
            go_wp2
            all_goals
              go_roundw
              case rel => exact ⟨i + 1, by omega, by go_num, by first | exact HT2 | exact HS2⟩
              case measure => simp [intOf]; omega
          · obtain rfl : i = n := by omega
            obtain ⟨hB, m, cu, hcu, hml, hcx, hm4, _⟩ := HM.out
            have hC : Kd.C (Kd.int .u8) wr (some ⟨g, 0, none⟩) m.length m := C_of (by omega) (fun j hj => by
              rw [Nat.zero_add, xb_cell hcu]; exact hcx j (by omega))
            have hst := Kd.C_string (P := Tryd.prog) (A := some ⟨g, 0, none⟩) (c := cc) Tryd.underlying43 Tryd.underlying5 Tryd.underlying9 hC
            rw [hml] at hst
            obtain ⟨hup, h128⟩ := HU.out m hml hm4
            have hsz : (strOfNums m).size ≤ 9 := by
              have : (strOfNums m).size = m.length := by unfold strOfNums; show ((m.map _).toArray).size = _; simp
              omega
            have hpf := Lib.hid (HP.out _ hsz hup h128)
            have HB3 := Lib.hid (HB.out.trans (hB.mono HB.out.size))
            have HK3 := Lib.hid (Kd.C_below HK.out hB)
            clear hB hcu hcx hm4 hC hup h128 hsz hml
            have hn2 := hn2'.out
            have hn3 := hn3'.out
            have hn4 := hn4'.out
            go_wp2_with (go_at_call 21; (with_reducible refine (ZD.impl_Privilege.calls _ _ _ hpf.out).mono ?_); rintro e w6 ⟨rfl, hb6⟩; have HB6 := Lib.hid (HB3.out.trans (hb6.mono HB3.out.size)); have HK6 := Lib.hid (Kd.C_below HK3.out hb6); clear hb6)
            go_roundw
            case rel => exact ⟨x + 1, by omega, by omega, by first | rfl | go_num, by rw [HS.out], HB6, HK6⟩
            case measure => simp [intOf]; omega
      · obtain rfl : x = 7 := by omega
        have e7 : Bits.psum (7 : Int).toNat = 255852640 := Bits.sum_end
        rw [e7]
        clear e7
        go_wp2_with (go_at_call 20; (with_reducible refine (ZD.laws_configAwake.calls true _ (by decide +kernel) (HT.out _ HB.out)).mono ?_); rintro e w6 ⟨rfl, hb6⟩; have HB6 := Lib.hid (HB.out.trans (hb6.mono HB.out.size)); clear hb6)
        go_ret
        exact ⟨rfl, HB6.out⟩
  · cases h
end Go.Proofs.YtipkpgmgjdfgoaaDoor.X
