/- slices.Grow of nil: an empty row with room. -/
import Derived.Test.YtdnahdddkagfhaaDoorGw
import Derived.Test.YtdnahdddkagfhaaDoorWZeros
namespace Go.Proofs.YtdnahdddkagfhaaDoor.X
open Go.RowKit Go.Proofs.YtdnahdddkagfhaaDoorW.PrintWords Go.Proofs.YtdnahdddkagfhaaDoorW.PrintMore
attribute [local go_sem] setCell_drewN alloc_drewN
set_option linter.unusedVariables false
set_option linter.unusedSimpArgs false
set_option maxHeartbeats 2000000 in
set_option maxRecDepth 100000 in
theorem growNil (n : Nat) (hn : 0 < n) (hm : n ≤ 1000000) (w : World) :
    Calls Tryd.prog 54 #[.slice none 0 0, .int .i64 n] w fun e w' => ∃ g cap, e = .returned (.slice (some ⟨g, 0, none⟩) 0 cap) ∧ Kd.R (Kd.int .u8) 5 w' w.heap.size (fun _ => True) (.slice (some ⟨g, 0, none⟩) 0 cap) [] ∧ Below w.heap.size w w' := by
  have inf5 : (Tryd.prog.info? 5).map (fun i => (i.zero, i.size, i.bytes)) = some (some (.int .u8 0), 1, 1) := by kernel_rfl
  have d0 : decide ((n : Int) < 0) = false := decide_eq_false (by omega)
  have d1 : decide ((n : Int) > 0) = true := decide_eq_true (by omega)
  have d2 : decide ((0 : Int) < (n : Int)) = true := decide_eq_true (by omega)
  go_enter Tryd.func54, Tryd.ntmps54
  go_wp2_with ((with_reducible refine gate_builtin (b := .append) (xs := #[.tmp 20, .tmp 21]) rfl ?_); at_builtin; refine Kd.R_append_zeros (Kd.int .u8) (w0 := w) w.heap.size rfl (.tmp 20) (.tmp 21) 22 3 5 (.int .u8 0) 1 rfl Tryd.underlying22 (k := .i64) Tryd.underlying3 inf5 rfl (by decide) (by decide) (.slice none 0 0) [] (0 : Int) (kx := .i64) (n : Int) (fun _ => True) rfl rfl ?aZ (fun _ _ => trivial) (Kd.R_nil _ _ _ _ _) ?a0 (Below.refl _ _) (Nat.le_refl _) ?aL ?_; (case aZ => exact rfl); (case a0 => omega); (case aL => simp only [List.length_nil]; omega); intro v1 w1 hR hb hg hat; (rw [List.nil_append, Int.toNat_natCast] at hR); obtain ⟨g, cap, rfl, hbg, hgl, hblk⟩ := Kd.R_form hR (by rw [List.length_replicate]; exact hn); (rw [List.length_replicate] at hR ⊢); have HR := Lib.hid hR; have HB := Lib.hid hb; clear hR hb hg hat)
  go_ret
  exact ⟨g, cap, rfl, by have h := Kd.R_take HR.out (m := 0) (Nat.zero_le _); simpa using h, HB.out⟩
set_option maxHeartbeats 4000000 in
set_option maxRecDepth 100000 in
/-- Three rows, one behind the other. -/
theorem concat3 (w : World) (g0 : Nat) (A0 A1 A2 : Option Addr) (c0 c1 c2 : Nat) (l0 l1 l2 : List Int) (s0 : w.cell? ⟨g0, 0, none⟩ = some (.slice A0 l0.length c0)) (s1 : w.cell? ⟨g0, 1, none⟩ = some (.slice A1 l1.length c1)) (s2 : w.cell? ⟨g0, 2, none⟩ = some (.slice A2 l2.length c2))
    (h0 : Kd.C (Kd.int .u8) w A0 l0.length l0) (h1 : Kd.C (Kd.int .u8) w A1 l1.length l1) (h2 : Kd.C (Kd.int .u8) w A2 l2.length l2) (hp : 0 < l0.length) (hm : l0.length + l1.length + l2.length ≤ 1000000) :
    Calls Tryd.prog 35 #[.slice (some ⟨g0, 0, none⟩) 3 3] w fun e w' => ∃ v, e = .returned v ∧ Kd.R (Kd.int .u8) 5 w' w.heap.size (fun _ => True) v (l0 ++ l1 ++ l2) ∧ Below w.heap.size w w' := by
  have inf5 : (Tryd.prog.info? 5).map (fun i => (i.zero, i.size, i.bytes)) = some (some (.int .u8 0), 1, 1) := by kernel_rfl
  have HC0 := Lib.hid h0
  have HC1 := Lib.hid h1
  have HC2 := Lib.hid h2
  have HGn := Lib.hid (fun W => growNil (l0.length + l1.length + l2.length) (by omega) (by omega) W)
  clear h0 h1 h2
  obtain ⟨n0, hn0⟩ : ∃ n, n = l0.length := ⟨_, rfl⟩
  obtain ⟨n1, hn1⟩ : ∃ n, n = l1.length := ⟨_, rfl⟩
  obtain ⟨n2, hn2⟩ : ∃ n, n = l2.length := ⟨_, rfl⟩
  rw [← hn0] at s0 HC0 HGn hp hm
  rw [← hn1] at s1 HC1 HGn hm
  rw [← hn2] at s2 HC2 HGn hm
  have HN0 := Lib.hid hn0
  have HN1 := Lib.hid hn1
  have HN2 := Lib.hid hn2
  have hgn := HGn.out
  simp only [Int.natCast_add] at hgn
  have HGm := Lib.hid hgn
  clear hn0 hn1 hn2 hgn HGn
  go_enter Tryd.func35, Tryd.ntmps35
  go_wp2
  go_loop [3, 11] (fun v3 v11 => (v11 = .int .i64 0 ∧ v3 = .int .i64 0) ∨ (v11 = .int .i64 1 ∧ v3 = .int .i64 ((n0 : Nat) : Int)) ∨ (v11 = .int .i64 2 ∧ v3 = .int .i64 ((n0 + n1 : Nat) : Int)) ∨ (v11 = .int .i64 3 ∧ v3 = .int .i64 ((n0 + n1 + n2 : Nat) : Int))) (fun _ v11 => 3 - (intOf v11).toNat)
  case atStart => exact .inl ⟨rfl, rfl⟩
  case round =>
    rcases hrel with ⟨rfl, rfl⟩ | ⟨rfl, rfl⟩ | ⟨rfl, rfl⟩ | ⟨rfl, rfl⟩
    · have d0 : decide ((n0 : Int) < 0) = false := decide_eq_false (by omega)
      go_wp2
      go_round
      case rel => exact .inr (.inl ⟨rfl, by go_num⟩)
      case measure => simp [intOf]
    · have d0 : decide ((n0 : Int) + (n1 : Int) < 0) = false := decide_eq_false (by omega)
      go_wp2
      go_round
      case rel => exact .inr (.inr (.inl ⟨rfl, by go_num⟩))
      case measure => simp [intOf]
    · have d0 : decide ((n0 : Int) + (n1 : Int) + (n2 : Int) < 0) = false := decide_eq_false (by omega)
      go_wp2
      go_round
      case rel => exact .inr (.inr (.inr ⟨rfl, by go_num⟩))
      case measure => simp [intOf]
    · go_wp2_with (go_at_call 54; (with_reducible refine (HGm.out _).mono ?_); rintro e w1 ⟨g, cap, rfl, hR, hb⟩; have HR := Lib.hid hR; have HB := Lib.hid hb; clear hR hb)
      go_loopw [6, 27] (fun v6 v27 wr => (v27 = .int .i64 0 ∧ Hid (Kd.R (Kd.int .u8) 5 wr w.heap.size (fun _ => True) v6 ([])) ∧ Hid (Below w.heap.size w wr)) ∨ (v27 = .int .i64 1 ∧ Hid (Kd.R (Kd.int .u8) 5 wr w.heap.size (fun _ => True) v6 ([] ++ l0)) ∧ Hid (Below w.heap.size w wr)) ∨ (v27 = .int .i64 2 ∧ Hid (Kd.R (Kd.int .u8) 5 wr w.heap.size (fun _ => True) v6 ([] ++ l0 ++ l1)) ∧ Hid (Below w.heap.size w wr)) ∨ (v27 = .int .i64 3 ∧ Hid (Kd.R (Kd.int .u8) 5 wr w.heap.size (fun _ => True) v6 ([] ++ l0 ++ l1 ++ l2)) ∧ Hid (Below w.heap.size w wr))) (fun _ v27 _ => 3 - (intOf v27).toNat)
      case atStart => exact .inl ⟨rfl, HR, HB⟩
      case round =>
        rcases hrel with ⟨rfl, HO, HBr⟩ | ⟨rfl, HO, HBr⟩ | ⟨rfl, HO, HBr⟩ | ⟨rfl, HO, HBr⟩
        · have q0 := bl_cell HBr.out s0
          go_wp2_with ((with_reducible refine gate_builtin (b := .append) (xs := #[.tmp 31, .tmp 32]) rfl ?_); at_builtin; refine Kd.R_append_row (Value.int .u8) (0 : Int) (h1 := fun _ => rfl) (w0 := w) w.heap.size rfl (.tmp 31) (.tmp 32) 22 5 (.int .u8 0) 1 rfl Tryd.underlying22 inf5 rfl (by decide) u6 ([]) l0 A0 n0 c0 (fun _ => True) rfl rfl (fun _ _ => trivial) HO.out (Kd.C_below HC0.out HBr.out) HBr.out HBr.out.size ?aL ?_; (case aL => have := HN0.out; have := HN1.out; have := HN2.out; simp only [List.length_nil, List.length_append]; omega); intro v7 w7 ho hb hg hat; have HO7 := Lib.hid ho; have HB7 := Lib.hid hb; clear ho hb hg hat)
          go_roundw
          case rel => exact .inr (.inl ⟨rfl, HO7, HB7⟩)
          case measure => simp [intOf]
        · have q0 := bl_cell HBr.out s1
          go_wp2_with ((with_reducible refine gate_builtin (b := .append) (xs := #[.tmp 31, .tmp 32]) rfl ?_); at_builtin; refine Kd.R_append_row (Value.int .u8) (0 : Int) (h1 := fun _ => rfl) (w0 := w) w.heap.size rfl (.tmp 31) (.tmp 32) 22 5 (.int .u8 0) 1 rfl Tryd.underlying22 inf5 rfl (by decide) u6 ([] ++ l0) l1 A1 n1 c1 (fun _ => True) rfl rfl (fun _ _ => trivial) HO.out (Kd.C_below HC1.out HBr.out) HBr.out HBr.out.size ?aL ?_; (case aL => have := HN0.out; have := HN1.out; have := HN2.out; simp only [List.length_nil, List.length_append]; omega); intro v7 w7 ho hb hg hat; have HO7 := Lib.hid ho; have HB7 := Lib.hid hb; clear ho hb hg hat)
          go_roundw
          case rel => exact .inr (.inr (.inl ⟨rfl, HO7, HB7⟩))
          case measure => simp [intOf]
        · have q0 := bl_cell HBr.out s2
          go_wp2_with ((with_reducible refine gate_builtin (b := .append) (xs := #[.tmp 31, .tmp 32]) rfl ?_); at_builtin; refine Kd.R_append_row (Value.int .u8) (0 : Int) (h1 := fun _ => rfl) (w0 := w) w.heap.size rfl (.tmp 31) (.tmp 32) 22 5 (.int .u8 0) 1 rfl Tryd.underlying22 inf5 rfl (by decide) u6 ([] ++ l0 ++ l1) l2 A2 n2 c2 (fun _ => True) rfl rfl (fun _ _ => trivial) HO.out (Kd.C_below HC2.out HBr.out) HBr.out HBr.out.size ?aL ?_; (case aL => have := HN0.out; have := HN1.out; have := HN2.out; simp only [List.length_nil, List.length_append]; omega); intro v7 w7 ho hb hg hat; have HO7 := Lib.hid ho; have HB7 := Lib.hid hb; clear ho hb hg hat)
          go_roundw
          case rel => exact .inr (.inr (.inr ⟨rfl, HO7, HB7⟩))
          case measure => simp [intOf]
        · go_wp2
          go_ret
          exact ⟨_, rfl, HO.out, HBr.out⟩
end Go.Proofs.YtdnahdddkagfhaaDoor.X
