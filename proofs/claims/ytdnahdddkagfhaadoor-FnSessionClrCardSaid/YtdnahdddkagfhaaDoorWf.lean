/- impl.SessionPut of any steps: the walk. -/
import Derived.Test.YtdnahdddkagfhaaDoorWe
namespace Go.Proofs.YtdnahdddkagfhaaDoor.X
open Go.RowKit Go.Proofs.YtdnahdddkagfhaaDoorW.PrintWords Go.Proofs.YtdnahdddkagfhaaDoorW.PrintMore
attribute [local go_sem] setCell_drewN alloc_drewN
set_option linter.unusedVariables false
set_option linter.unusedSimpArgs false
namespace Ses
theorem below_kp2 {B : Nat} {a w w' : World} {b : Nat} (h : Below B a w) (k : Kp2 w w' b b) (hB : B ≤ w.heap.size) (hb : B ≤ b) : Below B a w' := Kp2.below h k hB hb hb
theorem below_drewB (B : Nat) (w : World) (n : Nat) : Below B w (w.drewN n) := ⟨rfl, rfl, rfl, Nat.le_refl _, fun _ _ => rfl⟩
/-- What the steps from j on have still to write. -/
theorem flat_step {ps : List PS} {f : PS → List Int} {j : Nat} {p : PS} (hp : ps[j]? = some p) : (ps.take (j + 1)).flatMap f = (ps.take j).flatMap f ++ f p := by
  obtain ⟨hl, rfl⟩ := List.getElem?_eq_some_iff.1 hp
  rw [List.take_succ_eq_append_getElem hl, List.flatMap_append]
  simp
theorem flat_len {ps : List PS} (ok : ∀ p ∈ ps, OkP p) (big : Bool) (c : Nat) (hc : 1 ≤ c) : ∀ j : Nat, ((ps.take j).flatMap (stepB big c)).length ≤ 70000 * j := by
  intro j
  induction j with
  | zero => simp
  | succ j ih =>
    by_cases hj : j < ps.length
    · have hp : ps[j]? = some ps[j] := List.getElem?_eq_getElem hj
      rw [flat_step hp, List.length_append]
      have := stepB_len (ok _ (List.getElem_mem hj)) big c hc
      omega
    · rw [List.take_of_length_le (by omega)] at ih ⊢
      omega
end Ses
set_option maxHeartbeats 16000000 in
set_option maxRecDepth 100000 in
theorem sessionPut_any (ps : List Ses.PS) (A : Option Addr) (cA : Nat) (big : Bool) (c : Nat) (w : World) (hC : Ses.psKd.C w A ps.length ps) (hle : ps.length ≤ cA) (ok : ∀ p ∈ ps, Ses.OkP p) (hn : ps.length ≤ 100) (hc1 : 1 ≤ c) (hc2 : c ≤ 252) :
    Calls Tryd.prog 16 #[.slice A ps.length cA, .bool big, .int .i64 c] w fun e w' => ∃ v, e = .returned v ∧ Kd.R (Kd.int .u8) 5 w' w.heap.size (fun _ => True) v (ps.flatMap (Ses.stepB big c)) ∧ Below w.heap.size w w' := by
  have HC := Lib.hid hC
  have HOk := Lib.hid ok
  have HFl := Lib.hid (Ses.flat_len ok big c hc1)
  obtain ⟨n, hnl⟩ : ∃ n, n = ps.length := ⟨_, rfl⟩
  have HN := Lib.hid hnl
  rw [← hnl] at hn hle ⊢
  clear hC ok hnl
  go_enter Tryd.func16, Tryd.ntmps16
  go_wp2_with (go_at_call 39; (with_reducible refine (newSession _ w ⟨_, _, _, rfl⟩).mono ?_); rintro e w2 ⟨rfl, rfl⟩)
  have HBk : Hid ((w.alloc (.cells #[.slice none 0 0, .slice none 0 0, .int .i64 0, .int .i8 0, .int .i64 0, .bool big, .int .i64 c] 82)).heap[w.heap.size]? = some (.cells #[.slice none 0 0, .slice none 0 0, .int .i64 0, .int .i8 0, .int .i64 0, .bool big, .int .i64 c] 82 (0, 0))) := Lib.hid (xb_new _ _)
  have HBw : Hid (Below w.heap.size w (w.alloc (.cells #[.slice none 0 0, .slice none 0 0, .int .i64 0, .int .i8 0, .int .i64 0, .bool big, .int .i64 c] 82))) := Lib.hid (below_alloc (Below.refl _ _) _)
  generalize w.alloc (.cells #[.slice none 0 0, .slice none 0 0, .int .i64 0, .int .i8 0, .int .i64 0, .bool big, .int .i64 c] 82) = w3 at *
  have HW0 : Hid (Ses.WS w3 w.heap.size w.heap.size big (c : Int) []) := Lib.hid ⟨.slice none 0 0, 0, ⟨HBk.out, rfl, ⟨0, rfl⟩, .inl ⟨rfl, rfl, rfl⟩⟩⟩
  go_loopw [24] (fun v24 wr => ∃ (j g' : Nat), v24 = .int .i64 j ∧ j ≤ n ∧ Hid (Ses.WStep w3 wr w.heap.size w.heap.size g' big (c : Int) ((ps.take j).flatMap (Ses.stepB big c)))) (fun v24 _ => n - (intOf v24).toNat)
  case atStart => exact ⟨0, w.heap.size, rfl, Nat.zero_le _, Lib.hid (by rw [List.take_zero]; exact Ses.WStep.of HW0.out)⟩
  case round =>
    obtain ⟨j, g', rfl, hj, HS⟩ := hrel
    have HBl : Hid (Below w.heap.size w wr) := Lib.hid (Ses.below_kp2 HBw.out HS.out.kept HBw.out.size (Nat.le_refl _))
    by_cases hlt : j < n
    · have hjl : j < ps.length := by rw [← HN.out]; exact hlt
      obtain ⟨p, hp⟩ : ∃ p, ps[j]? = some p := ⟨_, List.getElem?_eq_getElem hjl⟩
      have HOp := Lib.hid (HOk.out p (List.mem_of_getElem? hp))
      obtain ⟨g0, o0, rfl, -, hel⟩ := Kd.C_head (Kd.C_below HC.out HBl.out) (by decide) (by omega)
      obtain ⟨cl, -, hK, hcell⟩ := hel j p hp
      obtain ⟨A1, c1, A2, c2, rfl, hA1, hA2⟩ := Ses.ps_open hK
      obtain ⟨kd, data, other, num, uns, size, flag, pb, pc⟩ := p
      simp only at hA1 hA2
      have s0 : wr.cell? ⟨g0, o0 + j * 9, none⟩ = some (.int .i64 kd) := hcell 0 _ rfl
      have s1 : wr.cell? ⟨g0, o0 + j * 9 + 1, none⟩ = some (.slice A1 data.length c1) := hcell 1 _ rfl
      have s2 : wr.cell? ⟨g0, o0 + j * 9 + 2, none⟩ = some (.slice A2 other.length c2) := hcell 2 _ rfl
      have s3 : wr.cell? ⟨g0, o0 + j * 9 + 3, none⟩ = some (.int .i64 num) := hcell 3 _ rfl
      have s4 : wr.cell? ⟨g0, o0 + j * 9 + 4, none⟩ = some (.int .u64 uns) := hcell 4 _ rfl
      have s5 : wr.cell? ⟨g0, o0 + j * 9 + 5, none⟩ = some (.int .u8 size) := hcell 5 _ rfl
      have s6 : wr.cell? ⟨g0, o0 + j * 9 + 6, none⟩ = some (.int .u8 flag) := hcell 6 _ rfl
      have s7 : wr.cell? ⟨g0, o0 + j * 9 + 7, none⟩ = some (.bool pb) := hcell 7 _ rfl
      have s8 : wr.cell? ⟨g0, o0 + j * 9 + 8, none⟩ = some (.bool pc) := hcell 8 _ rfl
      have HP := Lib.hid hp
      have HA1 := Lib.hid hA1
      have HA2 := Lib.hid hA2
      obtain ⟨nd, hnd⟩ : ∃ nd, nd = data.length := ⟨_, rfl⟩
      obtain ⟨no, hno⟩ : ∃ no, no = other.length := ⟨_, rfl⟩
      rw [← hnd] at s1
      rw [← hno] at s2
      have HNd := Lib.hid hnd
      have HNo := Lib.hid hno
      clear hp hel hK hcell hA1 hA2 hjl hnd hno
      go_wp2
      have HB4 : Hid (Below wr.heap.size wr (wr.alloc (.cells #[.int .i64 kd, .slice A1 nd c1, .slice A2 no c2, .int .i64 num, .int .u64 uns, .int .u8 size, .int .u8 flag, .bool pb, .bool pc] 29))) := Lib.hid (below_alloc (Below.refl _ _) _)
      have hq : (wr.alloc (.cells #[.int .i64 kd, .slice A1 nd c1, .slice A2 no c2, .int .i64 num, .int .u64 uns, .int .u8 size, .int .u8 flag, .bool pb, .bool pc] 29)).heap[wr.heap.size]? = some (.cells #[.int .i64 kd, .slice A1 nd c1, .slice A2 no c2, .int .i64 num, .int .u64 uns, .int .u8 size, .int .u8 flag, .bool pb, .bool pc] 29 (0, 0)) := xb_new _ _
      have q0 := xb_cell hq 0
      have q1 := xb_cell hq 1
      have q2 := xb_cell hq 2
      have q3 := xb_cell hq 3
      have q4 := xb_cell hq 4
      have q5 := xb_cell hq 5
      have q6 := xb_cell hq 6
      have q7 := xb_cell hq 7
      have q8 := xb_cell hq 8
      simp only [List.getElem?_toArray, List.getElem?_cons_zero, List.getElem?_cons_succ] at q0 q1 q2 q3 q4 q5 q6 q7 q8
      clear hq s0 s1 s2 s3 s4 s5 s6 s7 s8
      generalize wr.alloc (.cells #[.int .i64 kd, .slice A1 nd c1, .slice A2 no c2, .int .i64 num, .int .u64 uns, .int .u8 size, .int .u8 flag, .bool pb, .bool pc] 29) = w4 at *
      have HC1 : Hid (∀ W : World, Below w4.heap.size w4 W → Calls Tryd.prog 17 #[.slice A1 nd c1] W fun e w' => ∃ v, e = .returned v ∧ Kd.R (Kd.int .u8) 5 w' W.heap.size (fun _ => True) v data ∧ Below W.heap.size W w') := Lib.hid (fun W hW => by
        have h := clone_any A1 c1 data W (Kd.C_below (Kd.C_below HA1.out HB4.out) hW) (by have := HOp.out.data; simp only at this; omega)
        rw [← HNd.out] at h
        exact h)
      have HC2 : Hid (∀ W : World, Below w4.heap.size w4 W → Calls Tryd.prog 17 #[.slice A2 no c2] W fun e w' => ∃ v, e = .returned v ∧ Kd.R (Kd.int .u8) 5 w' W.heap.size (fun _ => True) v other ∧ Below W.heap.size W w') := Lib.hid (fun W hW => by
        have h := clone_any A2 c2 other W (Kd.C_below (Kd.C_below HA2.out HB4.out) hW) (by have := HOp.out.other; simp only at this; omega)
        rw [← HNo.out] at h
        exact h)
      go_region_held3 (fun w' => w'.cell? ⟨wr.heap.size, 1, none⟩ = some (.slice A1 nd c1) ∧ w'.cell? ⟨wr.heap.size, 2, none⟩ = some (.slice A2 no c2)) (first | exact ⟨q1, q2⟩ | exact ⟨k1, k2⟩ | exact ⟨m1, m2⟩) (first | (go_at_call 17; (with_reducible refine (HC1.out _ ?hb).mono ?_); (case hb => exact below_drew (Below.refl _ _)); rintro e w5 ⟨v5, rfl, hR5, hb5⟩; have HB5 := Lib.hid ((below_drew (Below.refl w4.heap.size w4)).trans hb5); have HR5 := Lib.hid hR5; have k1 := bl_cell HB5.out q1; have k2 := bl_cell HB5.out q2; clear hR5 hb5) | (go_at_call 17; (with_reducible refine (HC2.out _ ?hb).mono ?_); (case hb => exact HB5.out); rintro e w6 ⟨v6, rfl, hR6, hb6⟩; have HB6 := Lib.hid (HB5.out.trans (hb6.mono HB5.out.size)); have HR6 := Lib.hid hR6; have HB56 := Lib.hid hb6; have m1 := bl_cell HB6.out q1; have m2 := bl_cell HB6.out q2; clear hR6 hb6))
      obtain ⟨A5, c5, rfl, hle5, hC5, hab5, hcp5⟩ := Ses.R_slots HR5.out
      obtain ⟨A6, c6, rfl, hle6, hC6, hab6, hcp6⟩ := Ses.R_slots HR6.out
      have HC5 := Lib.hid (Kd.C_below hC5 HB56.out)
      have HC6 := Lib.hid hC6
      have HA5 := Lib.hid hab5
      have HA6 := Lib.hid hab6
      have HL5 := Lib.hid hle5
      have HL6 := Lib.hid hle6
      have HCap := Lib.hid (And.intro hcp5 hcp6)
      rw [← HNd.out, ← HNo.out]
      clear hcp5 hcp6 hle5 hle6 hC5 hC6 hab5 hab6 k1 k2 m1 m2
      have z0 := bl_cell HB6.out q0
      have z1 := bl_cell HB6.out q1
      have z2 := bl_cell HB6.out q2
      have z3 := bl_cell HB6.out q3
      have z4 := bl_cell HB6.out q4
      have z5 := bl_cell HB6.out q5
      have z6 := bl_cell HB6.out q6
      have z7 := bl_cell HB6.out q7
      have z8 := bl_cell HB6.out q8
      clear q0 q1 q2 q3 q4 q5 q6 q7 q8
      have HW6 := Lib.hid (HS.out.after (HB4.out.trans (HB6.out.mono HB4.out.size)))
      have HZ : Hid (w.heap.size < wr.heap.size ∧ g' < wr.heap.size ∧ wr.heap.size ≤ w4.heap.size ∧ w4.heap.size ≤ w5.heap.size ∧ w5.heap.size ≤ w6.heap.size ∧ w4.drew.heap.size = w4.heap.size) := Lib.hid ⟨HS.out.now.lt, HS.out.now.ltg, HB4.out.size, HB5.out.size, HB56.out.size, rfl⟩
      have HF : Hid (((ps.take j).flatMap (Ses.stepB big c)).length ≤ 7000000) := Lib.hid (by have := HFl.out j; omega)
      have HF1 := Lib.hid (Ses.flat_step (f := Ses.stepB big c) HP.out)
      obtain ⟨fl, hfl⟩ : ∃ fl, fl = (ps.take j).flatMap (Ses.stepB big c) := ⟨_, rfl⟩
      rw [← hfl] at HF HF1 HW6
      clear hfl HFl
      rcases Classical.em (kd = 0) with rfl | n0
      · have HK := Lib.hid (putBytes_any w.heap.size g' big (c : Int) fl data A5 c5 w6 HW6.out.now HC5.out (fun a e => by have := HA5.out a e; have := HZ.out; omega) (by have := HF.out; have := HOp.out.data; simp only at this; omega))
        rw [← HNd.out] at HK
        go_wp2_with (go_at_call 40; (with_reducible refine HK.out.mono ?_); rintro e w7 ⟨rfl, g7, hst⟩; have HS7 := Lib.hid (HW6.out.trans hst); clear hst)
        go_roundw
        case measure => simp [intOf]; omega
        case rel =>
          refine ⟨j + 1, g7, by go_num, by omega, Lib.hid ?_⟩
          rw [HF1.out]
          have hS := HS7.out
          first | exact hS | (rw [List.append_assoc, List.append_assoc, ← List.append_assoc (Dg.dlcB big c data)] at hS; exact hS)
      rcases Classical.em (kd = 1) with rfl | n1
      · have HK := Lib.hid (putClr_any w.heap.size g' big c fl data A5 c5 w6 HW6.out.now HC5.out HL5.out (HCap.out.1) (fun a e => by have := HA5.out a e; have := HZ.out; omega) (by have := HOp.out.data; simp only at this; omega) hc1 hc2 (by have := HF.out; omega))
        rw [← HNd.out] at HK
        go_wp2_with (go_at_call 41; (with_reducible refine HK.out.mono ?_); rintro e w7 ⟨rfl, g7, hst⟩; have HS7 := Lib.hid (HW6.out.trans hst); clear hst)
        go_roundw
        case measure => simp [intOf]; omega
        case rel =>
          refine ⟨j + 1, g7, by go_num, by omega, Lib.hid ?_⟩
          rw [HF1.out]
          have hS := HS7.out
          first | exact hS | (rw [List.append_assoc, List.append_assoc, ← List.append_assoc (Dg.dlcB big c data)] at hS; exact hS)
      rcases Classical.em (kd = 2) with rfl | n2
      · have HK := Lib.hid (putInt_any w.heap.size g' big (c : Int) fl num size pb pc w6 HW6.out.now (HOp.out.num rfl).1 (HOp.out.num rfl).2 (by have := HF.out; omega))
        go_wp2_with (go_at_call 42; (with_reducible refine HK.out.mono ?_); rintro e w7 ⟨rfl, g7, hst⟩; have HS7 := Lib.hid (HW6.out.trans hst); clear hst)
        go_roundw
        case measure => simp [intOf]; omega
        case rel =>
          refine ⟨j + 1, g7, by go_num, by omega, Lib.hid ?_⟩
          rw [HF1.out]
          have hS := HS7.out
          first | exact hS | (rw [List.append_assoc, List.append_assoc, ← List.append_assoc (Dg.dlcB big c data)] at hS; exact hS)
      rcases Classical.em (kd = 3) with rfl | n3
      · have HK := Lib.hid (putUint_any w.heap.size g' big (c : Int) fl uns size pb pc w6 HW6.out.now (HOp.out.uns rfl) (by have := HF.out; omega))
        go_wp2_with (go_at_call 43; (with_reducible refine HK.out.mono ?_); rintro e w7 ⟨rfl, g7, hst⟩; have HS7 := Lib.hid (HW6.out.trans hst); clear hst)
        go_roundw
        case measure => simp [intOf]; omega
        case rel =>
          refine ⟨j + 1, g7, by go_num, by omega, Lib.hid ?_⟩
          rw [HF1.out]
          have hS := HS7.out
          first | exact hS | (rw [List.append_assoc, List.append_assoc, ← List.append_assoc (Dg.dlcB big c data)] at hS; exact hS)
      rcases Classical.em (kd = 4) with rfl | n4
      · obtain ⟨fn, rfl⟩ := Int.eq_ofNat_of_zero_le HOp.out.flag.1
        have HK := Lib.hid (putKeyVal_any w.heap.size g' big c fl data other fn A5 A6 c5 c6 w6 HW6.out.now HC5.out HC6.out HL5.out HL6.out (HCap.out.1) (HCap.out.2) (fun a e => by have := HA5.out a e; have := HZ.out; omega) (fun a e => by have := HA6.out a e; have := HZ.out; omega) (by have := HOp.out.data; simp only at this; omega) (by have := HOp.out.other; simp only at this; omega) hc1 hc2 (by have := HOp.out.flag.2; simp only at this; omega) (by have := HF.out; omega))
        rw [← HNd.out, ← HNo.out] at HK
        go_wp2_with (go_at_call 44; (with_reducible refine HK.out.mono ?_); rintro e w7 ⟨rfl, g7, hst⟩; have HS7 := Lib.hid (HW6.out.trans hst); clear hst)
        go_roundw
        case measure => simp [intOf]; omega
        case rel =>
          refine ⟨j + 1, g7, by go_num, by omega, Lib.hid ?_⟩
          rw [HF1.out]
          have hS := HS7.out
          first | exact hS | (rw [List.append_assoc, List.append_assoc, ← List.append_assoc (Dg.dlcB big c data)] at hS; exact hS)
      rcases Classical.em (kd = 5) with rfl | n5
      · obtain ⟨fx, hfx⟩ : ∃ fx, fx = Dg.fixedB data := ⟨_, rfl⟩
        have HFx := Lib.hid hfx
        have HLx := Lib.hid (Dg.fixedB_len data)
        have HK := Lib.hid (fixedClr_any w.heap.size w6.heap.size 0 w6.heap.size 80 #[.slice none 0 0, .int .i64 0, .int .i8 0] [] data A5 c5 (w6.alloc (.cells #[.slice none 0 0, .int .i64 0, .int .i8 0] 80)) ⟨xb_new _ _, rfl, ⟨0, rfl⟩, .inl ⟨rfl, rfl, rfl⟩⟩ (Kd.C_below HC5.out (below_alloc (Below.refl _ _) _)) (fun a e => by have h := HA5.out a e; have hz := HZ.out; omega) (by have := HOp.out.data; simp only at this; omega) (by simp))
        rw [← HNd.out, List.nil_append, ← hfx] at HK
        rw [← hfx] at HLx
        have HPb := Lib.hid (fun (W : World) (A : Option Addr) (cc : Nat) (hws : Ses.WS W w.heap.size g' big (c : Int) fl) (hC : Kd.C (Kd.int .u8) W A fx.length fx) (hab : ∀ a, A = some a → a.block ≠ w.heap.size) => putBytes_any w.heap.size g' big (c : Int) fl fx A cc W hws hC hab (by have := HF.out; have := HLx.out; have := HOp.out.data; simp only at this; omega))
        clear hfx
        go_wp2_with (first | (go_at_call 45; (with_reducible refine HK.out.mono ?_); rintro e w7 ⟨rfl, gb, cs7, hst⟩; have HS5 := Lib.hid hst; have HBy := Lib.hid (bytes_any w6.heap.size 0 gb _ _ _ w7 hst.now); (have HB67 : Hid (Below w6.heap.size w6 w7) := Lib.hid (Ses.below_kp2 (below_alloc (Below.refl _ _) _) hst.kept (by rw [World.size_alloc]; omega) (Nat.le_refl _))); (have hrow := hst.row; rw [World.size_alloc] at hrow); have HGb : Hid (w6.heap.size ≤ gb) := Lib.hid (by omega); clear hst hrow) | (go_at_call 46; (with_reducible refine HBy.out.mono ?_); rintro e w8 ⟨A7, c7, rfl, hA7, hC7, -, n8, rfl⟩; have HC7 := Lib.hid hC7; have HA7 := Lib.hid hA7; clear hC7 hA7) | (go_at_call 40; (with_reducible refine (HPb.out _ _ _ ?hws ?hC ?hab).mono ?_); (case hws => exact HW6.out.now.bl (HB67.out.trans (Ses.below_drewB _ _ _))); (case hC => exact Kd.C_below HC7.out (bl_drewN _ _)); (case hab => intro a e; have hg := HGb.out; have hz := HZ.out; rcases HA7.out with h | ⟨h, _⟩ <;> rw [h] at e <;> cases e <;> (show gb ≠ _; omega)); rintro e w9 ⟨rfl, g9, hst⟩; have HS7 := Lib.hid ((HW6.out.after (HB67.out.trans (Ses.below_drewB _ _ _))).trans hst); clear hst))
        go_roundw
        case measure => simp [intOf]; omega
        case rel =>
          refine ⟨j + 1, g9, by go_num, by omega, Lib.hid ?_⟩
          rw [HF1.out]
          have hS := HS7.out
          rw [HFx.out] at hS
          exact hS
      · have t0 : (kd == 0) = false := beq_eq_false_iff_ne.2 n0
        have t1 : (kd == 1) = false := beq_eq_false_iff_ne.2 n1
        have t2 : (kd == 2) = false := beq_eq_false_iff_ne.2 n2
        have t3 : (kd == 3) = false := beq_eq_false_iff_ne.2 n3
        have t4 : (kd == 4) = false := beq_eq_false_iff_ne.2 n4
        have t5 : (kd == 5) = false := beq_eq_false_iff_ne.2 n5
        have HN0 := Lib.hid (show Ses.stepB big c ⟨kd, data, other, num, uns, size, flag, pb, pc⟩ = [] by unfold Ses.stepB; simp only; rw [if_neg n0, if_neg n1, if_neg n2, if_neg n3, if_neg n4, if_neg n5])
        clear n0 n1 n2 n3 n4 n5
        go_wp2
        go_roundw
        case measure => simp [intOf]; omega
        case rel =>
          refine ⟨j + 1, g', by go_num, by omega, Lib.hid ?_⟩
          rw [HF1.out, HN0.out, List.append_nil]
          exact HW6.out
    · have hjn : j = n := by omega
      have htk : ps.take j = ps := List.take_of_length_le (by have := HN.out; omega)
      rw [htk] at HS
      have t0 : decide ((j : Int) < (n : Int)) = false := decide_eq_false (by omega)
      have HTot := HFl.out n
      rw [show ps.take n = ps from List.take_of_length_le (by have := HN.out; omega)] at HTot
      have HO := Lib.hid (output_any w.heap.size g' big (c : Int) _ wr HS.out.now)
      have HTl := Lib.hid (show (ps.flatMap (Ses.stepB big c)).length ≤ 7000000 by omega)
      clear htk HTot
      obtain ⟨tot, htot⟩ : ∃ tot, tot = ps.flatMap (Ses.stepB big c) := ⟨_, rfl⟩
      rw [← htot] at HO HTl
      have HTo := Lib.hid htot
      clear htot
      have HCl := Lib.hid (fun (W : World) (A : Option Addr) (cc : Nat) (h : Kd.C (Kd.int .u8) W A tot.length tot) => clone_any A cc tot W h (by have := HTl.out; omega))
      obtain ⟨nt, hnt⟩ : ∃ nt, nt = tot.length := ⟨_, rfl⟩
      rw [← hnt] at HO HCl
      clear hnt hjn
      go_wp2_with (first | (go_at_call 47; (with_reducible refine HO.out.mono ?_); rintro e w8 ⟨A8, c8, rfl, hC8, n8, rfl⟩; have HC8 := Lib.hid hC8; clear hC8) | (go_at_call 17; (with_reducible refine (HCl.out _ _ _ ?hC).mono ?_); (case hC => exact HC8.out); rintro e w9 ⟨v9, rfl, hR9, hb9⟩; have HR9 := Lib.hid hR9; have HB9 := Lib.hid hb9; clear hR9 hb9))
      go_ret
      have hB : Below wr.heap.size wr w9 := (bl_drewN wr n8).trans (HB9.out.mono (Nat.le_refl _))
      rw [← HTo.out]
      exact ⟨v9, rfl, Kd.R_lower HR9.out (show w.heap.size ≤ wr.heap.size from HBl.out.size), HBl.out.trans (hB.mono HBl.out.size)⟩
end Go.Proofs.YtdnahdddkagfhaaDoor.X
