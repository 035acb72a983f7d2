/- spec.configEscaped: a text, byte by byte, by the reference. -/
import Derived.Test.YtipkpgmgjdfgoaaDoorSn
import Derived.Test.YtipkpgmgjdfgoaaDoorUc
namespace Go.Proofs.YtipkpgmgjdfgoaaDoor.X
open Go.RowKit Go.Proofs.YtipkpgmgjdfgoaaDoorW.PrintWords Go.Proofs.YtipkpgmgjdfgoaaDoorW.PrintMore
attribute [local go_sem] setCell_drewN alloc_drewN
set_option linter.unusedVariables false
set_option linter.unusedSimpArgs false
namespace Url
def alnum (c : Int) : Bool := (decide (48 ≤ c) && decide (c ≤ 57)) || (decide (65 ≤ c) && decide (c ≤ 90)) || (decide (97 ≤ c) && decide (c ≤ 122))
/-- The signs that are let be. -/
def letL (b : ByteArray) : List Int := bytesOf ((⟨#[45, 95, 46, 126]⟩ : ByteArray) ++ b)
def ce1 (b : ByteArray) (c : Int) : List Int := if alnum c = true ∨ c ∈ letL b then [c] else [37, hexd (c / 16), hexd (c % 16)]
def ceL (b : ByteArray) (l : List Int) : List Int := l.flatMap (ce1 b)
theorem ceL_snoc (b : ByteArray) (l : List Int) (c : Int) : ceL b (l ++ [c]) = ceL b l ++ ce1 b c := by simp [ceL]
theorem ce1_len (b : ByteArray) (c : Int) : (ce1 b c).length ≤ 3 := by unfold ce1; split <;> simp
theorem ceL_len (b : ByteArray) : ∀ l : List Int, (ceL b l).length ≤ 3 * l.length
  | [] => by simp [ceL]
  | c :: l => by
    have := ceL_len b l
    have := ce1_len b c
    have e : ceL b (c :: l) = ce1 b c ++ ceL b l := by simp [ceL]
    rw [e, List.length_append, List.length_cons]
    omega
theorem str_app (a b : List Int) : strOfNums (a ++ b) = strOfNums a ++ strOfNums b := by
  apply ByteArray.ext
  simp [strOfNums]
theorem conv_C (W : World) (s : ByteArray) (hs : s.size ≤ 9223372036854775807) : Kd.C (Kd.int .u8) (Lib.bytesWorld W 5 s) (some ⟨W.heap.size, 0, none⟩) (bytesOf s).length (bytesOf s) := by
  have := Kd.C_of_reads (d := (0 : Int)) (h1 := fun _ => rfl) (bytes_reads W 5 s hs)
  rw [← bytesOf_length s] at this
  exact this
theorem enc_one (x : Int) (h0 : 0 ≤ x) (h1 : x < 128) : Utf8.encode x = strOfNums [x] := by
  have : ∀ k : Fin 128, Utf8.encode (k.val : Int) = strOfNums [(k.val : Int)] := by decide +kernel
  have h := this ⟨x.toNat, by omega⟩
  rw [show ((⟨x.toNat, by omega⟩ : Fin 128).val : Int) = x from by show ((x.toNat : Nat) : Int) = x; omega] at h
  exact h
theorem hex_part (n : Int) (h0 : 0 ≤ n) (h1 : n < 16) : (⟨#[48, 49, 50, 51, 52, 53, 54, 55, 56, 57, 65, 66, 67, 68, 69, 70]⟩ : ByteArray).extract n.toNat (n + 1).toNat = strOfNums [hexd n] := by
  have : ∀ k : Fin 16, (⟨#[48, 49, 50, 51, 52, 53, 54, 55, 56, 57, 65, 66, 67, 68, 69, 70]⟩ : ByteArray).extract k.val (k.val + 1) = strOfNums [hexd (k.val : Int)] := by decide +kernel
  have h := this ⟨n.toNat, by omega⟩
  rw [show (n + 1).toNat = n.toNat + 1 by omega]
  rw [show ((⟨n.toNat, by omega⟩ : Fin 16).val : Int) = n from by show ((n.toNat : Nat) : Int) = n; omega] at h
  exact h
end Url
def spec_configEscaped.f (a0 a1 : ByteArray) : Option ByteArray := if a0.size ≤ 1000000 ∧ a1.size ≤ 1000 ∧ (∀ x ∈ bytesOf a1, x < 128) then some (strOfNums (Url.ceL a1 (bytesOf a0))) else none
set_option maxHeartbeats 8000000 in
set_option maxRecDepth 100000 in
theorem spec_configEscaped.calls (a0 a1 : ByteArray) (r : ByteArray) (w : World) (h : spec_configEscaped.f a0 a1 = some r) :
    Calls Tryd.prog 68 #[.string a0, .string a1] w fun e w' => e = .returned (.string r) ∧ Below w.heap.size w w' := by
  unfold spec_configEscaped.f at h
  split at h
  · rename_i hc
    obtain ⟨hsz, hs1, hlet⟩ := hc
    have hr := Lib.hid (Option.some.inj h)
    clear h
    obtain ⟨w2, c, cs, hcv, hsc, hB2, hblk, hcell⟩ := conv_row (P := Tryd.prog) w 9 43 Tryd.underlying9 Tryd.underlying43 Tryd.underlying5 a0
    have hlen := bytesOf_length a0
    have hbyt := byt_bytesOf a0
    have hg2 := xb_lt hblk
    generalize bytesOf a0 = l at *
    generalize hns : a0.size = n at *
    have HB := Lib.hid hB2
    have HC : Hid (∀ i : Nat, i < n → w2.cell? ⟨w.heap.size, i, none⟩ = some (.int .u8 (l.getD i 0))) := Lib.hid (fun i hi => (xb_cell hblk i).trans (hcell i hi))
    have HL := Lib.hid hlen
    have HY := Lib.hid hbyt
    have HLet := Lib.hid hlet
    have hzl : ((⟨#[45, 95, 46, 126]⟩ : ByteArray) ++ a1).size ≤ 1004 := by
      rw [ByteArray.size_append]
      have e1 : (⟨#[45, 95, 46, 126]⟩ : ByteArray).size = 4 := rfl
      omega
    have HCon : Hid (∀ (W : World) (x : Int), Calls Tryd.prog 48 #[.slice (some ⟨W.heap.size, 0, none⟩) (4 + a1.size) (grownCap W (4 + a1.size) 0 5), .int .u8 x] (Lib.bytesWorld W 5 ((⟨#[45, 95, 46, 126]⟩ : ByteArray) ++ a1)) fun e w' => e = .returned (.bool (decide (x ∈ Url.letL a1))) ∧ Drawn0 (Lib.bytesWorld W 5 ((⟨#[45, 95, 46, 126]⟩ : ByteArray) ++ a1)) w') := Lib.hid (fun W x => by
      have h1 := ZD.slices_Contains_byte_byte.calls ((bytesOf ((⟨#[45, 95, 46, 126]⟩ : ByteArray) ++ a1)).length + 1) _ (grownCap W (4 + a1.size) 0 5) (bytesOf ((⟨#[45, 95, 46, 126]⟩ : ByteArray) ++ a1)) x _ (Lib.bytesWorld W 5 ((⟨#[45, 95, 46, 126]⟩ : ByteArray) ++ a1)) (Url.conv_C W ((⟨#[45, 95, 46, 126]⟩ : ByteArray) ++ a1) (by omega)) (by rw [bytesOf_length, show ((⟨#[45, 95, 46, 126]⟩ : ByteArray) ++ a1).size = 4 + a1.size from by rw [ByteArray.size_append]; rfl]; exact grownCap_ge _ _ _ _) (contains_far _ x (by rw [bytesOf_length]; omega))
      have e4 : ((⟨#[45, 95, 46, 126]⟩ : ByteArray) ++ a1).size = 4 + a1.size := by rw [ByteArray.size_append]; rfl
      rw [bytesOf_length, e4] at h1
      exact h1)
    have HLm : Hid (∀ x ∈ Url.letL a1, x < 128) := Lib.hid (fun x hx => by
      unfold Url.letL at hx
      rw [Url.bytesOf_app, List.mem_append] at hx
      rcases hx with hx | hx
      · have k : ∀ x ∈ bytesOf (⟨#[45, 95, 46, 126]⟩ : ByteArray), x < 128 := by decide
        exact k x hx
      · exact hlet x hx)
    have kb : ∀ W, (convert 9 43 (.string ((⟨#[45, 95, 46, 126]⟩ : ByteArray) ++ a1))).run Tryd.prog W = .ok (.slice (some ⟨W.heap.size, 0, none⟩) ((⟨#[45, 95, 46, 126]⟩ : ByteArray) ++ a1).size (grownCap W ((⟨#[45, 95, 46, 126]⟩ : ByteArray) ++ a1).size 0 5)) (Lib.bytesWorld W 5 ((⟨#[45, 95, 46, 126]⟩ : ByteArray) ++ a1)) := fun W => print_bytes (P := Tryd.prog) 9 43 5 Tryd.underlying9 Tryd.underlying43 Tryd.underlying5 ((⟨#[45, 95, 46, 126]⟩ : ByteArray) ++ a1) W
    clear hB2 hblk hcell hbyt hlen hlet hns
    go_enter Tryd.func68, Tryd.ntmps68
    go_wp2
    clear hcv
    go_loopw [5, 12] (fun v5 v12 wr => ∃ i : Nat, i ≤ n ∧ v12 = .int .i64 i ∧ v5 = .string (strOfNums (Url.ceL a1 (l.take i))) ∧ Hid (Below w.heap.size w wr) ∧ Hid (Below w2.heap.size w2 wr)) (fun _ v12 _ => n - (intOf v12).toNat)
    case atStart => exact ⟨0, Nat.zero_le _, rfl, rfl, HB, Lib.hid (Below.refl _ _)⟩
    case round =>
      obtain ⟨i, hi, rfl, rfl, HBr, H2r⟩ := hrel
      by_cases hlt : i < n
      · have x0 := bl_cell H2r.out (HC.out i hlt)
        have hx := HY.out.get i
        have HSn := Lib.hid (Url.ceL_snoc a1 (l.take i) (l.getD i 0))
        have HTk := Lib.hid (Url.take_snoc l i (by rw [HL.out]; exact hlt))
        have hso : (strOfNums (Url.ceL a1 (l.take i))).size ≤ 3000000 := by
          rw [Url.size_str]
          have := Url.ceL_len a1 (l.take i)
          rw [List.length_take] at this
          omega
        generalize hst : strOfNums (Url.ceL a1 (l.take i)) = st at *
        have HSt := Lib.hid hst
        clear hst
        generalize l.getD i 0 = x at *
        rcases (show (x < 48) ∨ (48 ≤ x ∧ x ≤ 57) ∨ (57 < x ∧ x < 65) ∨ (65 ≤ x ∧ x ≤ 90) ∨ (90 < x ∧ x < 97) ∨ (97 ≤ x ∧ x ≤ 122) ∨ (122 < x) by omega) with k | k | k | k | k | k | k
        · have d0 : decide (x ≥ 48) = false := decide_eq_false (by omega)
          have d1 : decide (x ≤ 57) = true := decide_eq_true (by omega)
          have d2 : decide (x ≥ 65) = false := decide_eq_false (by omega)
          have d3 : decide (x ≤ 90) = true := decide_eq_true (by omega)
          have d4 : decide (x ≥ 97) = false := decide_eq_false (by omega)
          have d5 : decide (x ≤ 122) = true := decide_eq_true (by omega)
          have hal : ¬ Url.alnum x = true := by unfold Url.alnum; simp; omega
          by_cases hm : x ∈ Url.letL a1
          · have E1 := Lib.hid (show Url.ce1 a1 x = [x] by unfold Url.ce1; rw [if_pos (.inr hm)])
            have HEn := Lib.hid (Url.enc_one x hx.1 (HLm.out x hm))
            have hes : (Utf8.encode x).size ≤ 1 := by rw [HEn.out, Url.size_str]; exact Nat.le_refl _
            have hCx := HCon.out wr x
            rw [decide_eq_true hm] at hCx
            have HCx := Lib.hid hCx
            clear hCx hm hal
            go_wp2_with (go_at_call 48; (with_reducible refine HCx.out.mono ?_); rintro e w5 ⟨rfl, n5, rfl⟩)
            go_roundw
            case rel => exact ⟨i + 1, by omega, by go_num, by rw [HTk.out, HSn.out, E1.out, Url.str_app, HSt.out, HEn.out], Lib.hid ((bytes_below HBr.out HBr.out.size 5 _).trans ((bl_drewN _ n5).mono (by rw [Lib.bytesWorld_size]; have := HBr.out.size; omega))), Lib.hid ((bytes_below H2r.out H2r.out.size 5 _).trans ((bl_drewN _ n5).mono (by rw [Lib.bytesWorld_size]; have := H2r.out.size; omega)))⟩
            case measure => simp [intOf]; omega
          · have E1 := Lib.hid (show Url.ce1 a1 x = [37, Url.hexd (x / 16), Url.hexd (x % 16)] by unfold Url.ce1; rw [if_neg (fun q => q.elim hal hm)])
            have hCx := HCon.out wr x
            rw [decide_eq_false hm] at hCx
            have HCx := Lib.hid hCx
            have HX1 := Lib.hid (Url.hex_part (x / 16) (by omega) (by omega))
            have HX2 := Lib.hid (Url.hex_part (x % 16) (by omega) (by omega))
            clear hCx hm hal
            go_wp2_with (go_at_call 48; (with_reducible refine HCx.out.mono ?_); rintro e w5 ⟨rfl, n5, rfl⟩)
            go_quiet (fail)
            go_simp
            go_wp2
            go_roundw
            case rel => exact ⟨i + 1, by omega, by go_num, by rw [HTk.out, HSn.out, E1.out, Url.str_app, HSt.out, show [(37 : Int), Url.hexd (x / 16), Url.hexd (x % 16)] = ([37] ++ [Url.hexd (x / 16)]) ++ [Url.hexd (x % 16)] from rfl, Url.str_app, Url.str_app, ← HX1.out, ← HX2.out]; rfl, Lib.hid (by have q := bytes_below HBr.out HBr.out.size 5 ((⟨#[45, 95, 46, 126]⟩ : ByteArray) ++ a1); first | exact q.trans ((bl_drewN _ _).mono q.size) | exact (q.trans ((bl_drewN _ n5).mono q.size)).trans ((bl_drewN _ _).mono q.size)), Lib.hid (by have q := bytes_below H2r.out H2r.out.size 5 ((⟨#[45, 95, 46, 126]⟩ : ByteArray) ++ a1); first | exact q.trans ((bl_drewN _ _).mono q.size) | exact (q.trans ((bl_drewN _ n5).mono q.size)).trans ((bl_drewN _ _).mono q.size))⟩
            case measure => simp [intOf]; omega
        · have d0 : decide (x ≥ 48) = true := decide_eq_true (by omega)
          have d1 : decide (x ≤ 57) = true := decide_eq_true (by omega)
          have d2 : decide (x ≥ 65) = false := decide_eq_false (by omega)
          have d3 : decide (x ≤ 90) = true := decide_eq_true (by omega)
          have d4 : decide (x ≥ 97) = false := decide_eq_false (by omega)
          have d5 : decide (x ≤ 122) = true := decide_eq_true (by omega)
          have E1 := Lib.hid (show Url.ce1 a1 x = [x] by unfold Url.ce1; rw [if_pos (.inl (by unfold Url.alnum; simp; omega))])
          have HEn := Lib.hid (Url.enc_one x hx.1 (by omega))
          have hes : (Utf8.encode x).size ≤ 1 := by rw [HEn.out, Url.size_str]; exact Nat.le_refl _
          go_wp2
          go_roundw
          case rel => exact ⟨i + 1, by omega, by go_num, by rw [HTk.out, HSn.out, E1.out, Url.str_app, HSt.out, HEn.out], HBr, H2r⟩
          case measure => simp [intOf]; omega
        · have d0 : decide (x ≥ 48) = true := decide_eq_true (by omega)
          have d1 : decide (x ≤ 57) = false := decide_eq_false (by omega)
          have d2 : decide (x ≥ 65) = false := decide_eq_false (by omega)
          have d3 : decide (x ≤ 90) = true := decide_eq_true (by omega)
          have d4 : decide (x ≥ 97) = false := decide_eq_false (by omega)
          have d5 : decide (x ≤ 122) = true := decide_eq_true (by omega)
          have hal : ¬ Url.alnum x = true := by unfold Url.alnum; simp; omega
          by_cases hm : x ∈ Url.letL a1
          · have E1 := Lib.hid (show Url.ce1 a1 x = [x] by unfold Url.ce1; rw [if_pos (.inr hm)])
            have HEn := Lib.hid (Url.enc_one x hx.1 (HLm.out x hm))
            have hes : (Utf8.encode x).size ≤ 1 := by rw [HEn.out, Url.size_str]; exact Nat.le_refl _
            have hCx := HCon.out wr x
            rw [decide_eq_true hm] at hCx
            have HCx := Lib.hid hCx
            clear hCx hm hal
            go_wp2_with (go_at_call 48; (with_reducible refine HCx.out.mono ?_); rintro e w5 ⟨rfl, n5, rfl⟩)
            go_roundw
            case rel => exact ⟨i + 1, by omega, by go_num, by rw [HTk.out, HSn.out, E1.out, Url.str_app, HSt.out, HEn.out], Lib.hid ((bytes_below HBr.out HBr.out.size 5 _).trans ((bl_drewN _ n5).mono (by rw [Lib.bytesWorld_size]; have := HBr.out.size; omega))), Lib.hid ((bytes_below H2r.out H2r.out.size 5 _).trans ((bl_drewN _ n5).mono (by rw [Lib.bytesWorld_size]; have := H2r.out.size; omega)))⟩
            case measure => simp [intOf]; omega
          · have E1 := Lib.hid (show Url.ce1 a1 x = [37, Url.hexd (x / 16), Url.hexd (x % 16)] by unfold Url.ce1; rw [if_neg (fun q => q.elim hal hm)])
            have hCx := HCon.out wr x
            rw [decide_eq_false hm] at hCx
            have HCx := Lib.hid hCx
            have HX1 := Lib.hid (Url.hex_part (x / 16) (by omega) (by omega))
            have HX2 := Lib.hid (Url.hex_part (x % 16) (by omega) (by omega))
            clear hCx hm hal
            go_wp2_with (go_at_call 48; (with_reducible refine HCx.out.mono ?_); rintro e w5 ⟨rfl, n5, rfl⟩)
            go_quiet (fail)
            go_simp
            go_wp2
            go_roundw
            case rel => exact ⟨i + 1, by omega, by go_num, by rw [HTk.out, HSn.out, E1.out, Url.str_app, HSt.out, show [(37 : Int), Url.hexd (x / 16), Url.hexd (x % 16)] = ([37] ++ [Url.hexd (x / 16)]) ++ [Url.hexd (x % 16)] from rfl, Url.str_app, Url.str_app, ← HX1.out, ← HX2.out]; rfl, Lib.hid (by have q := bytes_below HBr.out HBr.out.size 5 ((⟨#[45, 95, 46, 126]⟩ : ByteArray) ++ a1); first | exact q.trans ((bl_drewN _ _).mono q.size) | exact (q.trans ((bl_drewN _ n5).mono q.size)).trans ((bl_drewN _ _).mono q.size)), Lib.hid (by have q := bytes_below H2r.out H2r.out.size 5 ((⟨#[45, 95, 46, 126]⟩ : ByteArray) ++ a1); first | exact q.trans ((bl_drewN _ _).mono q.size) | exact (q.trans ((bl_drewN _ n5).mono q.size)).trans ((bl_drewN _ _).mono q.size))⟩
            case measure => simp [intOf]; omega
        · have d0 : decide (x ≥ 48) = true := decide_eq_true (by omega)
          have d1 : decide (x ≤ 57) = false := decide_eq_false (by omega)
          have d2 : decide (x ≥ 65) = true := decide_eq_true (by omega)
          have d3 : decide (x ≤ 90) = true := decide_eq_true (by omega)
          have d4 : decide (x ≥ 97) = false := decide_eq_false (by omega)
          have d5 : decide (x ≤ 122) = true := decide_eq_true (by omega)
          have E1 := Lib.hid (show Url.ce1 a1 x = [x] by unfold Url.ce1; rw [if_pos (.inl (by unfold Url.alnum; simp; omega))])
          have HEn := Lib.hid (Url.enc_one x hx.1 (by omega))
          have hes : (Utf8.encode x).size ≤ 1 := by rw [HEn.out, Url.size_str]; exact Nat.le_refl _
          go_wp2
          go_roundw
          case rel => exact ⟨i + 1, by omega, by go_num, by rw [HTk.out, HSn.out, E1.out, Url.str_app, HSt.out, HEn.out], HBr, H2r⟩
          case measure => simp [intOf]; omega
        · have d0 : decide (x ≥ 48) = true := decide_eq_true (by omega)
          have d1 : decide (x ≤ 57) = false := decide_eq_false (by omega)
          have d2 : decide (x ≥ 65) = true := decide_eq_true (by omega)
          have d3 : decide (x ≤ 90) = false := decide_eq_false (by omega)
          have d4 : decide (x ≥ 97) = false := decide_eq_false (by omega)
          have d5 : decide (x ≤ 122) = true := decide_eq_true (by omega)
          have hal : ¬ Url.alnum x = true := by unfold Url.alnum; simp; omega
          by_cases hm : x ∈ Url.letL a1
          · have E1 := Lib.hid (show Url.ce1 a1 x = [x] by unfold Url.ce1; rw [if_pos (.inr hm)])
            have HEn := Lib.hid (Url.enc_one x hx.1 (HLm.out x hm))
            have hes : (Utf8.encode x).size ≤ 1 := by rw [HEn.out, Url.size_str]; exact Nat.le_refl _
            have hCx := HCon.out wr x
            rw [decide_eq_true hm] at hCx
            have HCx := Lib.hid hCx
            clear hCx hm hal
            go_wp2_with (go_at_call 48; (with_reducible refine HCx.out.mono ?_); rintro e w5 ⟨rfl, n5, rfl⟩)
            go_roundw
            case rel => exact ⟨i + 1, by omega, by go_num, by rw [HTk.out, HSn.out, E1.out, Url.str_app, HSt.out, HEn.out], Lib.hid ((bytes_below HBr.out HBr.out.size 5 _).trans ((bl_drewN _ n5).mono (by rw [Lib.bytesWorld_size]; have := HBr.out.size; omega))), Lib.hid ((bytes_below H2r.out H2r.out.size 5 _).trans ((bl_drewN _ n5).mono (by rw [Lib.bytesWorld_size]; have := H2r.out.size; omega)))⟩
            case measure => simp [intOf]; omega
          · have E1 := Lib.hid (show Url.ce1 a1 x = [37, Url.hexd (x / 16), Url.hexd (x % 16)] by unfold Url.ce1; rw [if_neg (fun q => q.elim hal hm)])
            have hCx := HCon.out wr x
            rw [decide_eq_false hm] at hCx
            have HCx := Lib.hid hCx
            have HX1 := Lib.hid (Url.hex_part (x / 16) (by omega) (by omega))
            have HX2 := Lib.hid (Url.hex_part (x % 16) (by omega) (by omega))
            clear hCx hm hal
            go_wp2_with (go_at_call 48; (with_reducible refine HCx.out.mono ?_); rintro e w5 ⟨rfl, n5, rfl⟩)
            go_quiet (fail)
            go_simp
            go_wp2
            go_roundw
            case rel => exact ⟨i + 1, by omega, by go_num, by rw [HTk.out, HSn.out, E1.out, Url.str_app, HSt.out, show [(37 : Int), Url.hexd (x / 16), Url.hexd (x % 16)] = ([37] ++ [Url.hexd (x / 16)]) ++ [Url.hexd (x % 16)] from rfl, Url.str_app, Url.str_app, ← HX1.out, ← HX2.out]; rfl, Lib.hid (by have q := bytes_below HBr.out HBr.out.size 5 ((⟨#[45, 95, 46, 126]⟩ : ByteArray) ++ a1); first | exact q.trans ((bl_drewN _ _).mono q.size) | exact (q.trans ((bl_drewN _ n5).mono q.size)).trans ((bl_drewN _ _).mono q.size)), Lib.hid (by have q := bytes_below H2r.out H2r.out.size 5 ((⟨#[45, 95, 46, 126]⟩ : ByteArray) ++ a1); first | exact q.trans ((bl_drewN _ _).mono q.size) | exact (q.trans ((bl_drewN _ n5).mono q.size)).trans ((bl_drewN _ _).mono q.size))⟩
            case measure => simp [intOf]; omega
        · have d0 : decide (x ≥ 48) = true := decide_eq_true (by omega)
          have d1 : decide (x ≤ 57) = false := decide_eq_false (by omega)
          have d2 : decide (x ≥ 65) = true := decide_eq_true (by omega)
          have d3 : decide (x ≤ 90) = false := decide_eq_false (by omega)
          have d4 : decide (x ≥ 97) = true := decide_eq_true (by omega)
          have d5 : decide (x ≤ 122) = true := decide_eq_true (by omega)
          have E1 := Lib.hid (show Url.ce1 a1 x = [x] by unfold Url.ce1; rw [if_pos (.inl (by unfold Url.alnum; simp; omega))])
          have HEn := Lib.hid (Url.enc_one x hx.1 (by omega))
          have hes : (Utf8.encode x).size ≤ 1 := by rw [HEn.out, Url.size_str]; exact Nat.le_refl _
          go_wp2
          go_roundw
          case rel => exact ⟨i + 1, by omega, by go_num, by rw [HTk.out, HSn.out, E1.out, Url.str_app, HSt.out, HEn.out], HBr, H2r⟩
          case measure => simp [intOf]; omega
        · have d0 : decide (x ≥ 48) = true := decide_eq_true (by omega)
          have d1 : decide (x ≤ 57) = false := decide_eq_false (by omega)
          have d2 : decide (x ≥ 65) = true := decide_eq_true (by omega)
          have d3 : decide (x ≤ 90) = false := decide_eq_false (by omega)
          have d4 : decide (x ≥ 97) = true := decide_eq_true (by omega)
          have d5 : decide (x ≤ 122) = false := decide_eq_false (by omega)
          have hal : ¬ Url.alnum x = true := by unfold Url.alnum; simp; omega
          by_cases hm : x ∈ Url.letL a1
          · have E1 := Lib.hid (show Url.ce1 a1 x = [x] by unfold Url.ce1; rw [if_pos (.inr hm)])
            have HEn := Lib.hid (Url.enc_one x hx.1 (HLm.out x hm))
            have hes : (Utf8.encode x).size ≤ 1 := by rw [HEn.out, Url.size_str]; exact Nat.le_refl _
            have hCx := HCon.out wr x
            rw [decide_eq_true hm] at hCx
            have HCx := Lib.hid hCx
            clear hCx hm hal
            go_wp2_with (go_at_call 48; (with_reducible refine HCx.out.mono ?_); rintro e w5 ⟨rfl, n5, rfl⟩)
            go_roundw
            case rel => exact ⟨i + 1, by omega, by go_num, by rw [HTk.out, HSn.out, E1.out, Url.str_app, HSt.out, HEn.out], Lib.hid ((bytes_below HBr.out HBr.out.size 5 _).trans ((bl_drewN _ n5).mono (by rw [Lib.bytesWorld_size]; have := HBr.out.size; omega))), Lib.hid ((bytes_below H2r.out H2r.out.size 5 _).trans ((bl_drewN _ n5).mono (by rw [Lib.bytesWorld_size]; have := H2r.out.size; omega)))⟩
            case measure => simp [intOf]; omega
          · have E1 := Lib.hid (show Url.ce1 a1 x = [37, Url.hexd (x / 16), Url.hexd (x % 16)] by unfold Url.ce1; rw [if_neg (fun q => q.elim hal hm)])
            have hCx := HCon.out wr x
            rw [decide_eq_false hm] at hCx
            have HCx := Lib.hid hCx
            have HX1 := Lib.hid (Url.hex_part (x / 16) (by omega) (by omega))
            have HX2 := Lib.hid (Url.hex_part (x % 16) (by omega) (by omega))
            clear hCx hm hal
            go_wp2_with (go_at_call 48; (with_reducible refine HCx.out.mono ?_); rintro e w5 ⟨rfl, n5, rfl⟩)
            go_quiet (fail)
            go_simp
            go_wp2
            go_roundw
            case rel => exact ⟨i + 1, by omega, by go_num, by rw [HTk.out, HSn.out, E1.out, Url.str_app, HSt.out, show [(37 : Int), Url.hexd (x / 16), Url.hexd (x % 16)] = ([37] ++ [Url.hexd (x / 16)]) ++ [Url.hexd (x % 16)] from rfl, Url.str_app, Url.str_app, ← HX1.out, ← HX2.out]; rfl, Lib.hid (by have q := bytes_below HBr.out HBr.out.size 5 ((⟨#[45, 95, 46, 126]⟩ : ByteArray) ++ a1); first | exact q.trans ((bl_drewN _ _).mono q.size) | exact (q.trans ((bl_drewN _ n5).mono q.size)).trans ((bl_drewN _ _).mono q.size)), Lib.hid (by have q := bytes_below H2r.out H2r.out.size 5 ((⟨#[45, 95, 46, 126]⟩ : ByteArray) ++ a1); first | exact q.trans ((bl_drewN _ _).mono q.size) | exact (q.trans ((bl_drewN _ n5).mono q.size)).trans ((bl_drewN _ _).mono q.size))⟩
            case measure => simp [intOf]; omega
      · obtain rfl : i = n := by omega
        have hfin : strOfNums (Url.ceL a1 (l.take i)) = r := by rw [List.take_of_length_le (by rw [HL.out]; exact Nat.le_refl _)]; exact hr.out
        rw [hfin]
        clear hfin
        go_wp2
        go_ret
        exact ⟨rfl, HBr.out⟩
  · cases h
end Go.Proofs.YtipkpgmgjdfgoaaDoor.X
