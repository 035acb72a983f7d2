/- Four rows joined; spec.SessionPut. -/
import Derived.Test.YtdnahdddkagfhaaDoorQc
namespace Go.Proofs.YtdnahdddkagfhaaDoor.X
open Go.RowKit Go.Proofs.YtdnahdddkagfhaaDoorW.PrintWords Go.Proofs.YtdnahdddkagfhaaDoorW.PrintLast Go.Proofs.YtdnahdddkagfhaaDoorW.PrintMore
attribute [local go_sem] setCell_drewN alloc_drewN
set_option linter.unusedVariables false
set_option linter.unusedSimpArgs false
set_option maxHeartbeats 8000000 in
set_option maxRecDepth 100000 in
theorem concat4 (w : World) (g0 : Nat) (A0 A1 A2 A3 : Option Addr) (c0 c1 c2 c3 : Nat) (l0 l1 l2 l3 : List Int) (s0 : w.cell? ⟨g0, 0, none⟩ = some (.slice A0 l0.length c0)) (s1 : w.cell? ⟨g0, 1, none⟩ = some (.slice A1 l1.length c1)) (s2 : w.cell? ⟨g0, 2, none⟩ = some (.slice A2 l2.length c2)) (s3 : w.cell? ⟨g0, 3, none⟩ = some (.slice A3 l3.length c3))
    (h0 : Kd.C (Kd.int .u8) w A0 l0.length l0) (h1 : Kd.C (Kd.int .u8) w A1 l1.length l1) (h2 : Kd.C (Kd.int .u8) w A2 l2.length l2) (h3 : Kd.C (Kd.int .u8) w A3 l3.length l3) (hp : 0 < l0.length + l1.length + l2.length + l3.length) (hm : l0.length + l1.length + l2.length + l3.length ≤ 1000000) :
    Calls Tryd.prog 35 #[.slice (some ⟨g0, 0, none⟩) 4 4] w fun e w' => ∃ v, e = .returned v ∧ Kd.R (Kd.int .u8) 5 w' w.heap.size (fun _ => True) v (l0 ++ l1 ++ l2 ++ l3) ∧ Below w.heap.size w w' := by
  have inf5 : (Tryd.prog.info? 5).map (fun i => (i.zero, i.size, i.bytes)) = some (some (.int .u8 0), 1, 1) := by kernel_rfl
  have HC0 := Lib.hid h0
  have HC1 := Lib.hid h1
  have HC2 := Lib.hid h2
  have HC3 := Lib.hid h3
  have HGn := Lib.hid (fun W => growNil (l0.length + l1.length + l2.length + l3.length) (by omega) (by omega) W)
  clear h0 h1 h2 h3
  obtain ⟨n0, hn0⟩ : ∃ n, n = l0.length := ⟨_, rfl⟩
  obtain ⟨n1, hn1⟩ : ∃ n, n = l1.length := ⟨_, rfl⟩
  obtain ⟨n2, hn2⟩ : ∃ n, n = l2.length := ⟨_, rfl⟩
  obtain ⟨n3, hn3⟩ : ∃ n, n = l3.length := ⟨_, rfl⟩
  rw [← hn0] at s0 HC0 HGn hm hp
  rw [← hn1] at s1 HC1 HGn hm hp
  rw [← hn2] at s2 HC2 HGn hm hp
  rw [← hn3] at s3 HC3 HGn hm hp
  have HN0 := Lib.hid hn0
  have HN1 := Lib.hid hn1
  have HN2 := Lib.hid hn2
  have HN3 := Lib.hid hn3
  have hgn := HGn.out
  simp only [Int.natCast_add] at hgn
  have HGm := Lib.hid hgn
  clear hn0 hn1 hn2 hn3 hgn HGn
  go_enter Tryd.func35, Tryd.ntmps35
  go_wp2
  go_loop [3, 11] (fun v3 v11 => (v11 = .int .i64 0 ∧ v3 = .int .i64 0) ∨ (v11 = .int .i64 1 ∧ v3 = .int .i64 ((n0 : Nat) : Int)) ∨ (v11 = .int .i64 2 ∧ v3 = .int .i64 ((n0 + n1 : Nat) : Int)) ∨ (v11 = .int .i64 3 ∧ v3 = .int .i64 ((n0 + n1 + n2 : Nat) : Int)) ∨ (v11 = .int .i64 4 ∧ v3 = .int .i64 ((n0 + n1 + n2 + n3 : Nat) : Int))) (fun _ v11 => 4 - (intOf v11).toNat)
  case atStart => exact .inl ⟨rfl, rfl⟩
  case round =>
    rcases hrel with ⟨rfl, rfl⟩ | ⟨rfl, rfl⟩ | ⟨rfl, rfl⟩ | ⟨rfl, rfl⟩ | ⟨rfl, rfl⟩
    · have d0 : decide ((n0 : Int) < 0) = false := decide_eq_false (by omega)
      go_wp2
      go_round
      case rel => exact .inr (.inl ⟨rfl, by go_num⟩)
      case measure => simp [intOf]
    · have d0 : decide ((n0 : Int) + (n1 : Int) < 0) = false := decide_eq_false (by omega)
      go_wp2
      go_round
      case rel => exact .inr (.inr (.inl ⟨rfl, by go_num⟩))
      case measure => simp [intOf]
    · have d0 : decide ((n0 : Int) + (n1 : Int) + (n2 : Int) < 0) = false := decide_eq_false (by omega)
      go_wp2
      go_round
      case rel => exact .inr (.inr (.inr (.inl ⟨rfl, by go_num⟩)))
      case measure => simp [intOf]
    · have d0 : decide ((n0 : Int) + (n1 : Int) + (n2 : Int) + (n3 : Int) < 0) = false := decide_eq_false (by omega)
      go_wp2
      go_round
      case rel => exact .inr (.inr (.inr (.inr ⟨rfl, by go_num⟩)))
      case measure => simp [intOf]
    · go_wp2_with (go_at_call 54; (with_reducible refine (HGm.out _).mono ?_); rintro e w1 ⟨g, cap, rfl, hR, hb⟩; have HR := Lib.hid hR; have HB := Lib.hid hb; clear hR hb)
      go_loopw [6, 27] (fun v6 v27 wr => (v27 = .int .i64 0 ∧ Hid (Kd.R (Kd.int .u8) 5 wr w.heap.size (fun _ => True) v6 ([])) ∧ Hid (Below w.heap.size w wr)) ∨ (v27 = .int .i64 1 ∧ Hid (Kd.R (Kd.int .u8) 5 wr w.heap.size (fun _ => True) v6 ([] ++ l0)) ∧ Hid (Below w.heap.size w wr)) ∨ (v27 = .int .i64 2 ∧ Hid (Kd.R (Kd.int .u8) 5 wr w.heap.size (fun _ => True) v6 ([] ++ l0 ++ l1)) ∧ Hid (Below w.heap.size w wr)) ∨ (v27 = .int .i64 3 ∧ Hid (Kd.R (Kd.int .u8) 5 wr w.heap.size (fun _ => True) v6 ([] ++ l0 ++ l1 ++ l2)) ∧ Hid (Below w.heap.size w wr)) ∨ (v27 = .int .i64 4 ∧ Hid (Kd.R (Kd.int .u8) 5 wr w.heap.size (fun _ => True) v6 ([] ++ l0 ++ l1 ++ l2 ++ l3)) ∧ Hid (Below w.heap.size w wr))) (fun _ v27 _ => 4 - (intOf v27).toNat)
      case atStart => exact .inl ⟨rfl, HR, HB⟩
      case round =>
        rcases hrel with ⟨rfl, HO, HBr⟩ | ⟨rfl, HO, HBr⟩ | ⟨rfl, HO, HBr⟩ | ⟨rfl, HO, HBr⟩ | ⟨rfl, HO, HBr⟩
        · have q0 := bl_cell HBr.out s0
          go_wp2_with ((with_reducible refine gate_builtin (b := .append) (xs := #[.tmp 31, .tmp 32]) rfl ?_); at_builtin; refine Kd.R_append_row (Value.int .u8) (0 : Int) (h1 := fun _ => rfl) (w0 := w) w.heap.size rfl (.tmp 31) (.tmp 32) 22 5 (.int .u8 0) 1 rfl Tryd.underlying22 inf5 rfl (by decide) u6 ([]) l0 A0 n0 c0 (fun _ => True) rfl rfl (fun _ _ => trivial) HO.out (Kd.C_below HC0.out HBr.out) HBr.out HBr.out.size ?aL ?_; (case aL => have := HN0.out; have := HN1.out; have := HN2.out; have := HN3.out; simp only [List.length_nil, List.length_append]; omega); intro v7 w7 ho hb hg hat; have HO7 := Lib.hid ho; have HB7 := Lib.hid hb; clear ho hb hg hat)
          go_roundw
          case rel => exact .inr (.inl ⟨rfl, HO7, HB7⟩)
          case measure => simp [intOf]
        · have q0 := bl_cell HBr.out s1
          go_wp2_with ((with_reducible refine gate_builtin (b := .append) (xs := #[.tmp 31, .tmp 32]) rfl ?_); at_builtin; refine Kd.R_append_row (Value.int .u8) (0 : Int) (h1 := fun _ => rfl) (w0 := w) w.heap.size rfl (.tmp 31) (.tmp 32) 22 5 (.int .u8 0) 1 rfl Tryd.underlying22 inf5 rfl (by decide) u6 ([] ++ l0) l1 A1 n1 c1 (fun _ => True) rfl rfl (fun _ _ => trivial) HO.out (Kd.C_below HC1.out HBr.out) HBr.out HBr.out.size ?aL ?_; (case aL => have := HN0.out; have := HN1.out; have := HN2.out; have := HN3.out; simp only [List.length_nil, List.length_append]; omega); intro v7 w7 ho hb hg hat; have HO7 := Lib.hid ho; have HB7 := Lib.hid hb; clear ho hb hg hat)
          go_roundw
          case rel => exact .inr (.inr (.inl ⟨rfl, HO7, HB7⟩))
          case measure => simp [intOf]
        · have q0 := bl_cell HBr.out s2
          go_wp2_with ((with_reducible refine gate_builtin (b := .append) (xs := #[.tmp 31, .tmp 32]) rfl ?_); at_builtin; refine Kd.R_append_row (Value.int .u8) (0 : Int) (h1 := fun _ => rfl) (w0 := w) w.heap.size rfl (.tmp 31) (.tmp 32) 22 5 (.int .u8 0) 1 rfl Tryd.underlying22 inf5 rfl (by decide) u6 ([] ++ l0 ++ l1) l2 A2 n2 c2 (fun _ => True) rfl rfl (fun _ _ => trivial) HO.out (Kd.C_below HC2.out HBr.out) HBr.out HBr.out.size ?aL ?_; (case aL => have := HN0.out; have := HN1.out; have := HN2.out; have := HN3.out; simp only [List.length_nil, List.length_append]; omega); intro v7 w7 ho hb hg hat; have HO7 := Lib.hid ho; have HB7 := Lib.hid hb; clear ho hb hg hat)
          go_roundw
          case rel => exact .inr (.inr (.inr (.inl ⟨rfl, HO7, HB7⟩)))
          case measure => simp [intOf]
        · have q0 := bl_cell HBr.out s3
          go_wp2_with ((with_reducible refine gate_builtin (b := .append) (xs := #[.tmp 31, .tmp 32]) rfl ?_); at_builtin; refine Kd.R_append_row (Value.int .u8) (0 : Int) (h1 := fun _ => rfl) (w0 := w) w.heap.size rfl (.tmp 31) (.tmp 32) 22 5 (.int .u8 0) 1 rfl Tryd.underlying22 inf5 rfl (by decide) u6 ([] ++ l0 ++ l1 ++ l2) l3 A3 n3 c3 (fun _ => True) rfl rfl (fun _ _ => trivial) HO.out (Kd.C_below HC3.out HBr.out) HBr.out HBr.out.size ?aL ?_; (case aL => have := HN0.out; have := HN1.out; have := HN2.out; have := HN3.out; simp only [List.length_nil, List.length_append]; omega); intro v7 w7 ho hb hg hat; have HO7 := Lib.hid ho; have HB7 := Lib.hid hb; clear ho hb hg hat)
          go_roundw
          case rel => exact .inr (.inr (.inr (.inr ⟨rfl, HO7, HB7⟩)))
          case measure => simp [intOf]
        · go_wp2
          go_ret
          exact ⟨_, rfl, HO.out, HBr.out⟩
namespace Ses
theorem ps_open2 {w : World} {p : PS} {c : List Value} (h : psKd.K w p c) : ∃ A cA B cB, c = [.int .i64 p.kind, .slice A p.data.length cA, .slice B p.other.length cB, .int .i64 p.num, .int .u64 p.uns, .int .u8 p.size, .int .u8 p.flag, .bool p.big, .bool p.comp] ∧ p.data.length ≤ cA ∧ p.other.length ≤ cB ∧ Kd.C (Kd.int .u8) w A p.data.length p.data ∧ Kd.C (Kd.int .u8) w B p.other.length p.other := by
  obtain ⟨c0, d0, rfl, h0, c1, d1, rfl, ⟨A, cA, rfl, hA, hA2⟩, c2, d2, rfl, ⟨B, cB, rfl, hB, hB2⟩, c3, d3, rfl, h3, c4, d4, rfl, h4, c5, d5, rfl, h5, c6, d6, rfl, h6, c7, d7, rfl, h7, h8⟩ := h
  have e0 : c0 = [_] := h0
  have e3 : c3 = [_] := h3
  have e4 : c4 = [_] := h4
  have e5 : c5 = [_] := h5
  have e6 : c6 = [_] := h6
  have e7 : c7 = [_] := h7
  have e8 : d7 = [_] := h8
  subst e0; subst e3; subst e4; subst e5; subst e6; subst e7; subst e8
  exact ⟨A, cA, B, cB, rfl, hA, hB, hA2, hB2⟩
theorem stepB_len2 {p : PS} (h : OkP p) (big : Bool) (c : Nat) (hc : 1 ≤ c) : (stepB big c p).length ≤ 10 * p.data.length + 10 * p.other.length + 40 := by
  unfold stepB
  split
  · omega
  split
  · have := Dg.clrB_len big c hc p.data; omega
  split
  · rename_i hk; have := okN_len (h.num hk).1 true p.big p.comp; omega
  split
  · rename_i hk; have := okN_len (h.uns hk) false p.big p.comp; omega
  split
  · have a := Dg.dlcB_len big c hc p.data
    have b := Dg.dlcB_len big c hc p.other
    have d := Dg.packed_len p.flag
    rw [List.length_append, List.length_append]; omega
  split
  · have := Dg.fixedB_len p.data; omega
  · simp
structure OkP2 (p : PS) : Prop extends OkP p where
  data2 : p.data.length ≤ 1000
  other2 : p.other.length ≤ 1000
theorem flat_len2 {ps : List PS} (ok : ∀ p ∈ ps, OkP2 p) (big : Bool) (c : Nat) (hc : 1 ≤ c) : ∀ j : Nat, ((ps.take j).flatMap (stepB big c)).length ≤ 20040 * j := by
  intro j
  induction j with
  | zero => simp
  | succ j ih =>
    by_cases hj : j < ps.length
    · have hp : ps[j]? = some ps[j] := List.getElem?_eq_getElem hj
      rw [flat_step hp, List.length_append]
      have hk := ok _ (List.getElem_mem hj)
      have := stepB_len2 hk.toOkP big c hc
      have := hk.data2
      have := hk.other2
      omega
    · rw [List.take_of_length_le (by omega)] at ih ⊢
      omega
end Ses
set_option maxHeartbeats 16000000 in
set_option maxRecDepth 100000 in
/-- spec.SessionPut of any steps. -/
theorem specPut (ps : List Ses.PS) (A : Option Addr) (cA : Nat) (big : Bool) (c : Nat) (w : World) (hC : Ses.psKd.C w A ps.length ps) (ok : ∀ p ∈ ps, Ses.OkP2 p) (hn : ps.length ≤ 20) (hc1 : 1 ≤ c) (hc2 : c ≤ 252) :
    Calls Tryd.prog 38 #[.slice A ps.length cA, .bool big, .int .i64 c] w fun e w' => ∃ v, e = .returned v ∧ Kd.R (Kd.int .u8) 5 w' w.heap.size (fun _ => True) v (ps.flatMap (Ses.stepB big c)) ∧ Below w.heap.size w w' := by
  have inf5 : (Tryd.prog.info? 5).map (fun i => (i.zero, i.size, i.bytes)) = some (some (.int .u8 0), 1, 1) := by kernel_rfl
  have HC := Lib.hid hC
  have HOk := Lib.hid ok
  have HFl := Lib.hid (Ses.flat_len2 ok big c hc1)
  obtain ⟨n, hnl⟩ : ∃ n, n = ps.length := ⟨_, rfl⟩
  have HN := Lib.hid hnl
  rw [← hnl] at hn ⊢
  clear hC ok hnl
  go_enter Tryd.func38, Tryd.ntmps38
  go_wp2
  go_loopw [7, 12] (fun v7 v12 wr => ∃ j : Nat, v12 = .int .i64 j ∧ j ≤ n ∧ Hid (Kd.R (Kd.int .u8) 5 wr w.heap.size (fun _ => True) v7 ((ps.take j).flatMap (Ses.stepB big c))) ∧ Hid (Below w.heap.size w wr)) (fun _ v12 _ => n - (intOf v12).toNat)
  case atStart => exact ⟨0, rfl, Nat.zero_le _, Lib.hid (by rw [List.take_zero]; exact Kd.R_nil _ _ _ _ _), Lib.hid (Below.refl _ _)⟩
  case round =>
    obtain ⟨j, rfl, hj, HO, HB⟩ := hrel
    by_cases hlt : j < n
    · have hjl : j < ps.length := by rw [← HN.out]; exact hlt
      have t2 : decide ((j : Int) < (n : Int)) = true := decide_eq_true (by omega)
      obtain ⟨p, hp⟩ : ∃ p, ps[j]? = some p := ⟨_, List.getElem?_eq_getElem hjl⟩
      have HOp := Lib.hid (HOk.out p (List.mem_of_getElem? hp))
      obtain ⟨g0, o0, rfl, -, hel⟩ := Kd.C_head (Kd.C_below HC.out HB.out) (by decide) (by omega)
      obtain ⟨cl, -, hK, hcell⟩ := hel j p hp
      obtain ⟨A1, c1, A2, c2, rfl, hle1, hle2, hA1, hA2⟩ := Ses.ps_open2 hK
      obtain ⟨kd, data, other, num, uns, size, flag, pb, pc⟩ := p
      simp only at hA1 hA2 hle1 hle2
      have s0 : wr.cell? ⟨g0, o0 + j * 9, none⟩ = some (.int .i64 kd) := hcell 0 _ rfl
      have s1 : wr.cell? ⟨g0, o0 + j * 9 + 1, none⟩ = some (.slice A1 data.length c1) := hcell 1 _ rfl
      have s2 : wr.cell? ⟨g0, o0 + j * 9 + 2, none⟩ = some (.slice A2 other.length c2) := hcell 2 _ rfl
      have s3 : wr.cell? ⟨g0, o0 + j * 9 + 3, none⟩ = some (.int .i64 num) := hcell 3 _ rfl
      have s4 : wr.cell? ⟨g0, o0 + j * 9 + 4, none⟩ = some (.int .u64 uns) := hcell 4 _ rfl
      have s5 : wr.cell? ⟨g0, o0 + j * 9 + 5, none⟩ = some (.int .u8 size) := hcell 5 _ rfl
      have s6 : wr.cell? ⟨g0, o0 + j * 9 + 6, none⟩ = some (.int .u8 flag) := hcell 6 _ rfl
      have s7 : wr.cell? ⟨g0, o0 + j * 9 + 7, none⟩ = some (.bool pb) := hcell 7 _ rfl
      have s8 : wr.cell? ⟨g0, o0 + j * 9 + 8, none⟩ = some (.bool pc) := hcell 8 _ rfl
      have HF : Hid (((ps.take j).flatMap (Ses.stepB big c)).length ≤ 400800) := Lib.hid (by have := HFl.out j; omega)
      have HF1 := Lib.hid (Ses.flat_step (f := Ses.stepB big c) hp)
      obtain ⟨fl, hfl⟩ : ∃ fl, fl = (ps.take j).flatMap (Ses.stepB big c) := ⟨_, rfl⟩
      rw [← hfl] at HF HF1 HO
      have hd1 := HOp.out.data2
      have hd2 := HOp.out.other2
      simp only at hd1 hd2
      have HA1 := Lib.hid hA1
      have HA2 := Lib.hid hA2
      clear hp hel hK hcell hA1 hA2 hjl hfl
      have HBa : Hid (Below w.heap.size w (wr.alloc (.cells #[.int .i64 kd, .slice A1 data.length c1, .slice A2 other.length c2, .int .i64 num, .int .u64 uns, .int .u8 size, .int .u8 flag, .bool pb, .bool pc] 29))) := Lib.hid (below_alloc HB.out _)
      have HOa := Lib.hid (Kd.R_alloc HO.out (.cells #[.int .i64 kd, .slice A1 data.length c1, .slice A2 other.length c2, .int .i64 num, .int .u64 uns, .int .u8 size, .int .u8 flag, .bool pb, .bool pc] 29))
      have HA1a := Lib.hid (Kd.C_below HA1.out (below_alloc (Below.refl wr.heap.size wr) (.cells #[.int .i64 kd, .slice A1 data.length c1, .slice A2 other.length c2, .int .i64 num, .int .u64 uns, .int .u8 size, .int .u8 flag, .bool pb, .bool pc] 29)))
      have HA2a := Lib.hid (Kd.C_below HA2.out (below_alloc (Below.refl wr.heap.size wr) (.cells #[.int .i64 kd, .slice A1 data.length c1, .slice A2 other.length c2, .int .i64 num, .int .u64 uns, .int .u8 size, .int .u8 flag, .bool pb, .bool pc] 29)))
      clear HO HB
      rcases Classical.em (kd = 0) with rfl | n0
      · have hst : Ses.stepB big c ⟨0, data, other, num, uns, size, flag, pb, pc⟩ = data := rfl
        rw [hst] at HF1
        go_wp2_with (((with_reducible refine gate_builtin (b := .append) (xs := #[.tmp 20, .tmp 22]) rfl ?_); at_builtin; refine Kd.R_append_row (Value.int .u8) (0 : Int) (h1 := fun _ => rfl) (w0 := w) w.heap.size rfl (.tmp 20) (.tmp 22) 22 5 (.int .u8 0) 1 rfl Tryd.underlying22 inf5 rfl (by decide) u7 (fl) (data) A1 (data.length) (c1) (fun _ => True) rfl rfl (fun _ _ => trivial) HOa.out HA1a.out HBa.out HBa.out.size ?aL ?_; (case aL => have := HF.out; omega); intro v8 w8 ho hb hg hat; have HO8 := Lib.hid ho; have HB8 := Lib.hid hb; clear ho hb hg hat))
        go_roundw
        case measure => simp [intOf]; omega
        case rel => exact ⟨j + 1, by go_num, by omega, Lib.hid (by rw [HF1.out]; exact HO8.out), HB8⟩
      rcases Classical.em (kd = 1) with rfl | n1
      · have hst : Ses.stepB big c ⟨1, data, other, num, uns, size, flag, pb, pc⟩ = Dg.clrB big c data := rfl
        rw [hst] at HF1
        have hl := Dg.clrB_len big c hc1 data
        have HK := Lib.hid (fun W h => specClr data A1 c1 big c W h hle1 (by omega) hc1 (by omega))
        go_wp2_with (first | (go_at_call 34; (with_reducible refine (HK.out _ HA1a.out).mono ?_); rintro e w6 ⟨v6, rfl, hR6, hb6⟩; obtain ⟨A6, c6, rfl, hle6, hC6, -, -⟩ := Ses.R_slots hR6; have HC6 := Lib.hid hC6; have HO6 := Lib.hid (Kd.R_below HOa.out hb6); have HB6 := Lib.hid (HBa.out.trans (hb6.mono HBa.out.size)); clear hR6 hC6 hb6) | ((with_reducible refine gate_builtin (b := .append) (xs := #[.tmp 26, .tmp 31]) rfl ?_); at_builtin; refine Kd.R_append_row (Value.int .u8) (0 : Int) (h1 := fun _ => rfl) (w0 := w) w.heap.size rfl (.tmp 26) (.tmp 31) 22 5 (.int .u8 0) 1 rfl Tryd.underlying22 inf5 rfl (by decide) u7 (fl) (Dg.clrB big c data) A6 ((Dg.clrB big c data).length) (c6) (fun _ => True) rfl rfl (fun _ _ => trivial) HO6.out HC6.out HB6.out HB6.out.size ?aL ?_; (case aL => have := HF.out; omega); intro v8 w8 ho hb hg hat; have HO8 := Lib.hid ho; have HB8 := Lib.hid hb; clear ho hb hg hat))
        go_roundw
        case measure => simp [intOf]; omega
        case rel => exact ⟨j + 1, by go_num, by omega, Lib.hid (by rw [HF1.out]; exact HO8.out), HB8⟩
      rcases Classical.em (kd = 2) with rfl | n2
      · have hst : Ses.stepB big c ⟨2, data, other, num, uns, size, flag, pb, pc⟩ = Ses.numB true num size pb pc := rfl
        rw [hst] at HF1
        obtain ⟨hok, hnb⟩ := HOp.out.num rfl
        simp only at hok hnb
        have hnl := Ses.okN_len hok true pb pc
        obtain ⟨hn0, hsz⟩ := hok
        have tw : IntKind.u64.wrap num = num := (IntKind.wrap_u64 _).trans (by omega)
        have HK := Lib.hid (fun W => specNumber num 2 size num uns flag A1 A2 data.length c1 other.length c2 pb pc W hn0 (by omega) (by omega) (by omega))
        rw [show decide ((2 : Int) = 2) = true from rfl] at HK
        have HNl := Lib.hid hnl
        clear hsz hnl
        go_wp2_with (first | (go_at_call 55; (with_reducible refine (HK.out _).mono ?_); rintro e w6 ⟨v6, rfl, hR6, hb6⟩; obtain ⟨A6, c6, rfl, hle6, hC6, -, -⟩ := Ses.R_slots hR6; have HC6 := Lib.hid hC6; have HO6 := Lib.hid (Kd.R_below HOa.out hb6); have HB6 := Lib.hid (HBa.out.trans (hb6.mono HBa.out.size)); clear hR6 hC6 hb6) | ((with_reducible refine gate_builtin (b := .append) (xs := #[.tmp 35, .tmp 40]) rfl ?_); at_builtin; refine Kd.R_append_row (Value.int .u8) (0 : Int) (h1 := fun _ => rfl) (w0 := w) w.heap.size rfl (.tmp 35) (.tmp 40) 22 5 (.int .u8 0) 1 rfl Tryd.underlying22 inf5 rfl (by decide) u7 (fl) (Ses.numB true num size pb pc) A6 ((Ses.numB true num size pb pc).length) (c6) (fun _ => True) rfl rfl (fun _ _ => trivial) HO6.out HC6.out HB6.out HB6.out.size ?aL ?_; (case aL => (have := HF.out); (have := HNl.out); omega); intro v8 w8 ho hb hg hat; have HO8 := Lib.hid ho; have HB8 := Lib.hid hb; clear ho hb hg hat))
        go_roundw
        case measure => simp [intOf]; omega
        case rel => exact ⟨j + 1, by go_num, by omega, Lib.hid (by rw [HF1.out]; exact HO8.out), HB8⟩
      rcases Classical.em (kd = 3) with rfl | n3
      · have hst : Ses.stepB big c ⟨3, data, other, num, uns, size, flag, pb, pc⟩ = Ses.numB false uns size pb pc := rfl
        rw [hst] at HF1
        have hok := HOp.out.uns rfl
        simp only at hok
        have hnl := Ses.okN_len hok false pb pc
        obtain ⟨hn0, hsz⟩ := hok
        have HK := Lib.hid (fun W => specNumber uns 3 size num uns flag A1 A2 data.length c1 other.length c2 pb pc W hn0 (by omega) (by omega) (by omega))
        rw [show decide ((3 : Int) = 2) = false from rfl] at HK
        have HNl := Lib.hid hnl
        clear hsz hnl
        go_wp2_with (first | (go_at_call 55; (with_reducible refine (HK.out _).mono ?_); rintro e w6 ⟨v6, rfl, hR6, hb6⟩; obtain ⟨A6, c6, rfl, hle6, hC6, -, -⟩ := Ses.R_slots hR6; have HC6 := Lib.hid hC6; have HO6 := Lib.hid (Kd.R_below HOa.out hb6); have HB6 := Lib.hid (HBa.out.trans (hb6.mono HBa.out.size)); clear hR6 hC6 hb6) | ((with_reducible refine gate_builtin (b := .append) (xs := #[.tmp 44, .tmp 48]) rfl ?_); at_builtin; refine Kd.R_append_row (Value.int .u8) (0 : Int) (h1 := fun _ => rfl) (w0 := w) w.heap.size rfl (.tmp 44) (.tmp 48) 22 5 (.int .u8 0) 1 rfl Tryd.underlying22 inf5 rfl (by decide) u7 (fl) (Ses.numB false uns size pb pc) A6 ((Ses.numB false uns size pb pc).length) (c6) (fun _ => True) rfl rfl (fun _ _ => trivial) HO6.out HC6.out HB6.out HB6.out.size ?aL ?_; (case aL => (have := HF.out); (have := HNl.out); omega); intro v8 w8 ho hb hg hat; have HO8 := Lib.hid ho; have HB8 := Lib.hid hb; clear ho hb hg hat))
        go_roundw
        case measure => simp [intOf]; omega
        case rel => exact ⟨j + 1, by go_num, by omega, Lib.hid (by rw [HF1.out]; exact HO8.out), HB8⟩
      rcases Classical.em (kd = 4) with rfl | n4
      · have hst : Ses.stepB big c ⟨4, data, other, num, uns, size, flag, pb, pc⟩ = Dg.dlcB big c data ++ Dg.dlcB big c other ++ Dg.packed flag := rfl
        rw [hst] at HF1
        obtain ⟨fl0, fl1⟩ := HOp.out.flag
        simp only at fl0 fl1
        have hla := Dg.dlcB_len big c hc1 data
        have hlb := Dg.dlcB_len big c hc1 other
        have hlp := Dg.packed_len flag
        have tw : IntKind.u64.wrap flag = flag := (IntKind.wrap_u64 _).trans (by omega)
        go_wp2
        have hq := xb_new wr (.cells #[.int .i64 4, .slice A1 data.length c1, .slice A2 other.length c2, .int .i64 num, .int .u64 uns, .int .u8 size, .int .u8 flag, .bool pb, .bool pc] 29)
        have q1 : (wr.alloc (.cells #[.int .i64 4, .slice A1 data.length c1, .slice A2 other.length c2, .int .i64 num, .int .u64 uns, .int .u8 size, .int .u8 flag, .bool pb, .bool pc] 29)).cell? ⟨wr.heap.size, 1, none⟩ = some (.slice A1 data.length c1) := xb_cell hq 1
        have q2 : (wr.alloc (.cells #[.int .i64 4, .slice A1 data.length c1, .slice A2 other.length c2, .int .i64 num, .int .u64 uns, .int .u8 size, .int .u8 flag, .bool pb, .bool pc] 29)).cell? ⟨wr.heap.size, 2, none⟩ = some (.slice A2 other.length c2) := xb_cell hq 2
        have q6 : (wr.alloc (.cells #[.int .i64 4, .slice A1 data.length c1, .slice A2 other.length c2, .int .i64 num, .int .u64 uns, .int .u8 size, .int .u8 flag, .bool pb, .bool pc] 29)).cell? ⟨wr.heap.size, 6, none⟩ = some (.int .u8 flag) := xb_cell hq 6
        clear hq s0 s1 s2 s3 s4 s5 s6 s7 s8
        generalize wr.alloc (.cells #[.int .i64 4, .slice A1 data.length c1, .slice A2 other.length c2, .int .i64 num, .int .u64 uns, .int .u8 size, .int .u8 flag, .bool pb, .bool pc] 29) = w4 at *
        obtain ⟨da, hda⟩ : ∃ da, da = Dg.dlcB big c data := ⟨_, rfl⟩
        obtain ⟨db, hdb⟩ : ∃ db, db = Dg.dlcB big c other := ⟨_, rfl⟩
        obtain ⟨dp, hdp⟩ : ∃ dp, dp = Dg.packed flag := ⟨_, rfl⟩
        have HK1 := Lib.hid (fun (W : World) (h : Below w4.heap.size w4 W) => specDlc data A1 c1 big c W (Kd.C_below HA1a.out h) hle1 (by omega) hc1 (by omega))
        have HK2 := Lib.hid (fun (W : World) (h : Below w4.heap.size w4 W) => specDlc other A2 c2 big c W (Kd.C_below HA2a.out h) hle2 (by omega) hc1 (by omega))
        have HK3 := Lib.hid (fun (W : World) => Ses.specPacked flag fl0 (by omega) W)
        rw [← hda] at HK1 HF1 hla
        rw [← hdb] at HK2 HF1 hlb
        rw [← hdp] at HK3 HF1 hlp
        have HLn : Hid (fl.length ≤ 400800 ∧ da.length ≤ 10012 ∧ db.length ≤ 10012 ∧ dp.length ≤ 9 ∧ 0 < da.length) := Lib.hid ⟨HF.out, by omega, by omega, hlp, by
          rw [hda]
          unfold Dg.dlcB
          split
          · simp
          · unfold Dg.packed
            simp⟩
        clear hda hdb hdp hla hlb hlp
        obtain ⟨A0, c0, rfl, hle0, -, -, -⟩ := Ses.R_slots HOa.out
        have HCat := Lib.hid (fun (W : World) (g0 : Nat) (B C D : Option Addr) (cB cC cD : Nat) s0 s1 s2 s3 h0 h1 h2 h3 => concat4 W g0 A0 B C D c0 cB cC cD fl da db dp s0 s1 s2 s3 h0 h1 h2 h3 (by have := HLn.out; omega) (by have := HLn.out; omega))
        have HO4 : Hid (Kd.C (Kd.int .u8) w4 A0 fl.length fl) := Lib.hid (by
          obtain ⟨A', c', e, -, h, -, -⟩ := Ses.R_slots HOa.out
          injection e with e1 e2 e3
          subst e1
          exact h)
        go_region_held3 (fun w' => w'.cell? ⟨wr.heap.size, 1, none⟩ = some (.slice A1 data.length c1) ∧ w'.cell? ⟨wr.heap.size, 2, none⟩ = some (.slice A2 other.length c2) ∧ w'.cell? ⟨wr.heap.size, 6, none⟩ = some (.int .u8 flag)) (first | exact ⟨q1, q2, q6⟩ | exact ⟨k1, k2, k6⟩ | exact ⟨l1, l2, l6⟩ | exact ⟨m1, m2, m6⟩ | exact ⟨cell_alloc _ m1, cell_alloc _ m2, cell_alloc _ m6⟩ | exact ⟨p1, p2, p6⟩) (first | (go_at_call 56; (with_reducible refine (HK1.out _ ?hb).mono ?_); (case hb => exact below_drew (Below.refl _ _)); rintro e w5 ⟨v5, rfl, hR5, hb5⟩; obtain ⟨A5, c5, rfl, hle5, hC5, -, -⟩ := Ses.R_slots hR5; have HC5 := Lib.hid hC5; have HB5 : Hid (Below w4.heap.size w4 w5) := Lib.hid (bl_trans (below_drew (Below.refl _ _)) hb5); have k1 := bl_cell HB5.out q1; have k2 := bl_cell HB5.out q2; have k6 := bl_cell HB5.out q6; clear hR5 hC5 hb5) | (go_at_call 56; (with_reducible refine (HK2.out _ ?hb).mono ?_); (case hb => exact HB5.out); rintro e w6 ⟨v6, rfl, hR6, hb6⟩; obtain ⟨A6, c6, rfl, hle6, hC6, -, -⟩ := Ses.R_slots hR6; have HC6 := Lib.hid hC6; have HC5' := Lib.hid (Kd.C_below HC5.out hb6); have HB6 : Hid (Below w4.heap.size w4 w6) := Lib.hid (bl_trans HB5.out hb6); have l1 := bl_cell HB6.out q1; have l2 := bl_cell HB6.out q2; have l6 := bl_cell HB6.out q6; clear hR6 hC6 hb6) | (go_at_call 21; (with_reducible refine (HK3.out _).mono ?_); rintro e w7 ⟨v7', rfl, hR7, hb7⟩; obtain ⟨A7, c7, rfl, hle7, hC7, -, -⟩ := Ses.R_slots hR7; have HC7 := Lib.hid hC7; have HC5'' := Lib.hid (Kd.C_below HC5'.out hb7); have HC6' := Lib.hid (Kd.C_below HC6.out hb7); have HB7 : Hid (Below w4.heap.size w4 w7) := Lib.hid (bl_trans HB6.out hb7); have m1 := bl_cell HB7.out q1; have m2 := bl_cell HB7.out q2; have m6 := bl_cell HB7.out q6; clear hR7 hC7 hb7) | (go_at_call 35; (with_reducible refine (HCat.out _ w7.heap.size A5 A6 A7 c5 c6 c7 ?s0 ?s1 ?s2 ?s3 ?h0 ?h1 ?h2 ?h3).mono ?_); (case s0 => exact xb_cell (xb_new w7 _) 0); (case s1 => exact xb_cell (xb_new w7 _) 1); (case s2 => exact xb_cell (xb_new w7 _) 2); (case s3 => exact xb_cell (xb_new w7 _) 3); (case h0 => exact Kd.C_below HO4.out (below_alloc HB7.out _)); (case h1 => exact Kd.C_below HC5''.out (below_alloc (Below.refl _ _) _)); (case h2 => exact Kd.C_below HC6'.out (below_alloc (Below.refl _ _) _)); (case h3 => exact Kd.C_below HC7.out (below_alloc (Below.refl _ _) _)); rintro e w8 ⟨v8, rfl, hR8, hb8⟩; have HR8 := Lib.hid hR8; have HB8' : Hid (Below w4.heap.size w4 w8) := Lib.hid (bl_trans (below_alloc HB7.out _) hb8); have p1 := bl_cell HB8'.out q1; have p2 := bl_cell HB8'.out q2; have p6 := bl_cell HB8'.out q6; clear hR8 hb8))
        have hzz : w.heap.size ≤ (w7.alloc (.cells #[.slice A0 fl.length c0, .slice A5 da.length c5, .slice A6 db.length c6, .slice A7 dp.length c7] 22)).heap.size := by rw [World.size_alloc]; have := HB7.out.size; have := HBa.out.size; omega
        have HO8 : Hid (Kd.R (Kd.int .u8) 5 w8 w.heap.size (fun _ => True) v8 (fl ++ (da ++ db ++ dp))) := Lib.hid (by
          have h := Kd.R_lower HR8.out hzz
          simp only [List.append_assoc] at h ⊢
          exact h)
        have HB8 : Hid (Below w.heap.size w w8) := Lib.hid (HBa.out.trans (HB8'.out.mono HBa.out.size))
        go_wp2
        go_roundw
        case measure => simp [intOf]; omega
        case rel => exact ⟨j + 1, by go_num, by omega, Lib.hid (by rw [HF1.out]; exact HO8.out), HB8⟩
      rcases Classical.em (kd = 5) with rfl | n5
      · have hst : Ses.stepB big c ⟨5, data, other, num, uns, size, flag, pb, pc⟩ = Dg.fixedB data := rfl
        rw [hst] at HF1
        have hl := Dg.fixedB_len data
        have HK := Lib.hid (fun W h => specFixed data A1 c1 W h hle1 (by omega))
        go_wp2_with (first | (go_at_call 57; (with_reducible refine (HK.out _ HA1a.out).mono ?_); rintro e w6 ⟨v6, rfl, hR6, hb6⟩; obtain ⟨A6, c6, rfl, hle6, hC6, -, -⟩ := Ses.R_slots hR6; have HC6 := Lib.hid hC6; have HO6 := Lib.hid (Kd.R_below HOa.out hb6); have HB6 := Lib.hid (HBa.out.trans (hb6.mono HBa.out.size)); clear hR6 hC6 hb6) | ((with_reducible refine gate_builtin (b := .append) (xs := #[.tmp 71, .tmp 74]) rfl ?_); at_builtin; refine Kd.R_append_row (Value.int .u8) (0 : Int) (h1 := fun _ => rfl) (w0 := w) w.heap.size rfl (.tmp 71) (.tmp 74) 22 5 (.int .u8 0) 1 rfl Tryd.underlying22 inf5 rfl (by decide) u7 (fl) (Dg.fixedB data) A6 ((Dg.fixedB data).length) (c6) (fun _ => True) rfl rfl (fun _ _ => trivial) HO6.out HC6.out HB6.out HB6.out.size ?aL ?_; (case aL => have := HF.out; omega); intro v8 w8 ho hb hg hat; have HO8 := Lib.hid ho; have HB8 := Lib.hid hb; clear ho hb hg hat))
        go_roundw
        case measure => simp [intOf]; omega
        case rel => exact ⟨j + 1, by go_num, by omega, Lib.hid (by rw [HF1.out]; exact HO8.out), HB8⟩
      have hst : Ses.stepB big c ⟨kd, data, other, num, uns, size, flag, pb, pc⟩ = [] := by simp [Ses.stepB, n0, n1, n2, n3, n4, n5]
      rw [hst, List.append_nil] at HF1
      have e0 : decide (kd = 0) = false := decide_eq_false n0
      have e1 : decide (kd = 1) = false := decide_eq_false n1
      have e2 : decide (kd = 2) = false := decide_eq_false n2
      have e3 : decide (kd = 3) = false := decide_eq_false n3
      have e4 : decide (kd = 4) = false := decide_eq_false n4
      have e5 : decide (kd = 5) = false := decide_eq_false n5
      go_wp2
      go_roundw
      case measure => simp [intOf]; omega
      case rel => exact ⟨j + 1, by go_num, by omega, Lib.hid (by rw [HF1.out]; exact HOa.out), HBa⟩
    · have hjn : j = n := by omega
      have t2 : decide ((j : Int) < (n : Int)) = false := decide_eq_false (by omega)
      have ht : ps.take j = ps := List.take_of_length_le (by have := HN.out; omega)
      go_wp2
      go_ret
      exact ⟨_, rfl, by rw [← ht]; exact HO.out, HB.out⟩
end Go.Proofs.YtdnahdddkagfhaaDoor.X
