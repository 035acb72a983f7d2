-- Written by a program of this session (wip/xprint.py), which calls the kit's print.
import Derived.Test.YtpacjdlgnoiheaaDoorZM0
import Derived.Test.YtpacjdlgnoiheaaDoorPw
import Derived.Test.YtpacjdlgnoiheaaDoorPn
namespace Go.Proofs.YtpacjdlgnoiheaaDoor.ZM
open Go.RowKit Go.Proofs.YtpacjdlgnoiheaaDoor.X Go.Proofs.YtpacjdlgnoiheaaDoorW.PrintWords Go.Proofs.YtpacjdlgnoiheaaDoorW.PrintLast Go.Proofs.YtpacjdlgnoiheaaDoorW.PrintMore
attribute [local go_sem] max2_int min2_int max_two min_two max_three min_three max_four min_four   -- for this text's walks alone
set_option linter.unusedVariables false
set_option linter.unusedSimpArgs false

/-! ### laws_FnPacketMarks: function 8 -/
mutual
def laws_FnPacketMarks.l0 : Nat → List Int → List Int → List Int → Int → Int → Int → Int → Int → Int → Int → Int → Int → Int → Int → Bool → Option (Bool)
  | 0, _, _, _, _, _, _, _, _, _, _, _, _, _, _, _ => none
  | k + 1, x1, x5, x20, x21, x22, x102000, x102001, x102002, x102003, x102004, x102005, x102006, x102007, x102008, x102009 => if x22 < x21 then (if 0 ≤ x22 then (if x22 < (x20.length : Int) then ((impl_MarkerBytes.f x102000 x102001 x102002 x102003 x102004 x102005 x102006 x102007 x102008 x102009 (rd x20 x22)).bind fun t104 => (if x5.length + t104.length < 140737488355328 then (laws_FnPacketMarks.l0 k x1 (x5 ++ t104) x20 x21 (wrap64 (x22 + 1)) x102000 x102001 x102002 x102003 x102004 x102005 x102006 x102007 x102008 x102009) else (none))) else (none)) else (none)) else (if (x5.length : Int) = (wrap64 (11 * (x1.length : Int))) then (laws_FnPacketMarks.l1 k x5 x1 (x1.length : Int) 0 x102000 x102001 x102002 x102003 x102004 x102005 x102006 x102007 x102008 x102009) else (some false))
def laws_FnPacketMarks.l1 : Nat → List Int → List Int → Int → Int → Int → Int → Int → Int → Int → Int → Int → Int → Int → Bool → Option (Bool)
  | 0, _, _, _, _, _, _, _, _, _, _, _, _, _, _ => none
  | k + 1, x5, x38, x39, x40, x102000, x102001, x102002, x102003, x102004, x102005, x102006, x102007, x102008, x102009 => if x40 < x39 then (if 0 ≤ x40 then (if x40 < (x38.length : Int) then (if 0 ≤ (wrap64 (11 * x40)) then (if (wrap64 (11 * x40)) ≤ (wrap64 ((wrap64 (11 * x40)) + 11)) then (if (wrap64 ((wrap64 (11 * x40)) + 11)) ≤ (x5.length : Int) then ((bytes_Clone.f ((x5.take ((wrap64 ((wrap64 (11 * x40)) + 11)) : Int).toNat).drop ((wrap64 (11 * x40)) : Int).toNat)).bind fun t116 => ((impl_MarkerRead.f x102000 x102001 x102002 x102003 x102004 x102005 x102006 x102007 x102008 x102009 t116).bind fun bt119 => (if bt119.2.2.2.2.2 = true then (if bt119.2.2.2.2.1 = (rd x38 x40) then (laws_FnPacketMarks.l1 k x5 x38 x39 (wrap64 (x40 + 1)) x102000 x102001 x102002 x102003 x102004 x102005 x102006 x102007 x102008 x102009) else (some false)) else (some false)))) else (none)) else (none)) else (none)) else (none)) else (none)) else ((laws_packetAwake.f).bind fun t110 => (some t110))
end
def laws_FnPacketMarks.f (k : Nat) (a0_0 : Int) (a0_1 : Int) (a0_2 : Int) (a0_3 : Int) (a0_4 : Int) (a0_5 : Int) (a0_6 : Int) (a0_7 : Int) (a0_8 : Int) (a0_9 : Bool) (l1 : List Int) : Option (Bool) := if (l1.length : Int) > 2147483647 then (some true) else (if (l1.length : Int) > 20 then ((laws_packetAwake.f).bind fun t102 => (some t102)) else (laws_FnPacketMarks.l0 k l1 ([] : List Int) l1 (l1.length : Int) 0 a0_0 a0_1 a0_2 a0_3 a0_4 a0_5 a0_6 a0_7 a0_8 a0_9))
theorem laws_FnPacketMarks.mono_l : ∀ k, (∀ y0 y1 y2 y3 y4 y5 y6 y7 y8 y9 y10 y11 y12 y13 y14, LeO (laws_FnPacketMarks.l0 k y0 y1 y2 y3 y4 y5 y6 y7 y8 y9 y10 y11 y12 y13 y14) (laws_FnPacketMarks.l0 (k + 1) y0 y1 y2 y3 y4 y5 y6 y7 y8 y9 y10 y11 y12 y13 y14)) ∧ (∀ y0 y1 y2 y3 y4 y5 y6 y7 y8 y9 y10 y11 y12 y13, LeO (laws_FnPacketMarks.l1 k y0 y1 y2 y3 y4 y5 y6 y7 y8 y9 y10 y11 y12 y13) (laws_FnPacketMarks.l1 (k + 1) y0 y1 y2 y3 y4 y5 y6 y7 y8 y9 y10 y11 y12 y13))
  | 0 => ⟨fun _ _ _ _ _ _ _ _ _ _ _ _ _ _ _ r h => by simp [laws_FnPacketMarks.l0] at h, fun _ _ _ _ _ _ _ _ _ _ _ _ _ _ r h => by simp [laws_FnPacketMarks.l1] at h⟩
  | k + 1 => by
    obtain ⟨ih0, ih1⟩ := laws_FnPacketMarks.mono_l k
    refine ⟨?_, ?_⟩
    · intro y0 y1 y2 y3 y4 y5 y6 y7 y8 y9 y10 y11 y12 y13 y14
      unfold laws_FnPacketMarks.l0
      repeat' first
      | (with_reducible exact ih0 _ _ _ _ _ _ _ _ _ _ _ _ _ _ _)
      | (with_reducible exact ih1 _ _ _ _ _ _ _ _ _ _ _ _ _ _)
      | (with_reducible exact LeO.refl _)
      | (with_reducible exact LeO.none _)
      | (with_reducible refine LeO.ite ?_ ?_)
      | (with_reducible refine LeO.bind ?_ (fun _ => ?_))
      | exact ih0 _ _ _ _ _ _ _ _ _ _ _ _ _ _ _
      | exact ih1 _ _ _ _ _ _ _ _ _ _ _ _ _ _
      | exact LeO.none _
      | refine LeO.ite ?_ ?_
      | refine LeO.bind ?_ (fun _ => ?_)
    · intro y0 y1 y2 y3 y4 y5 y6 y7 y8 y9 y10 y11 y12 y13
      unfold laws_FnPacketMarks.l1
      repeat' first
      | (with_reducible exact ih0 _ _ _ _ _ _ _ _ _ _ _ _ _ _ _)
      | (with_reducible exact ih1 _ _ _ _ _ _ _ _ _ _ _ _ _ _)
      | (with_reducible exact LeO.refl _)
      | (with_reducible exact LeO.none _)
      | (with_reducible refine LeO.ite ?_ ?_)
      | (with_reducible refine LeO.bind ?_ (fun _ => ?_))
      | exact ih0 _ _ _ _ _ _ _ _ _ _ _ _ _ _ _
      | exact ih1 _ _ _ _ _ _ _ _ _ _ _ _ _ _
      | exact LeO.none _
      | refine LeO.ite ?_ ?_
      | refine LeO.bind ?_ (fun _ => ?_)
theorem laws_FnPacketMarks.mono : ∀ a0 a1 a2 a3 a4 a5 a6 a7 a8 a9 a10 k, LeO (laws_FnPacketMarks.f k a0 a1 a2 a3 a4 a5 a6 a7 a8 a9 a10) (laws_FnPacketMarks.f (k + 1) a0 a1 a2 a3 a4 a5 a6 a7 a8 a9 a10) := by
  intro a0 a1 a2 a3 a4 a5 a6 a7 a8 a9 a10 k
  obtain ⟨ih0, ih1⟩ := laws_FnPacketMarks.mono_l k
  unfold laws_FnPacketMarks.f
  repeat' first
      | (with_reducible exact ih0 _ _ _ _ _ _ _ _ _ _ _ _ _ _ _)
      | (with_reducible exact ih1 _ _ _ _ _ _ _ _ _ _ _ _ _ _)
      | (with_reducible exact LeO.refl _)
      | (with_reducible exact LeO.none _)
      | (with_reducible refine LeO.ite ?_ ?_)
      | (with_reducible refine LeO.bind ?_ (fun _ => ?_))
      | exact ih0 _ _ _ _ _ _ _ _ _ _ _ _ _ _ _
      | exact ih1 _ _ _ _ _ _ _ _ _ _ _ _ _ _
      | exact LeO.none _
      | refine LeO.ite ?_ ?_
      | refine LeO.bind ?_ (fun _ => ?_)
def laws_FnPacketMarks.T16 : Bool × List (List Nat × List Nat) := (true, [([], []), ([], []), ([], []), ([2], [2]), ([], []), ([4], [4]), ([5], [5]), ([1, 3, 6], [1, 3, 6]), ([7], [7]), ([0, 8, 8], [0, 8]), ([9], [9]), ([10], [10]), ([10], [10]), ([10], [10]), ([], []), ([14, 11, 9, 0, 1, 2, 3, 4, 5, 6, 7, 8, 9, 10, 11, 14], [11, 14]), ([12, 15, 0, 1, 2, 3, 4, 5, 6, 7, 8, 9, 10, 11, 12, 14, 15], [12]), ([13, 16, 0, 1, 2, 3, 4, 5, 6, 7, 8, 9, 10, 11, 12, 13, 14, 15, 16], [13])])
def laws_FnPacketMarks.B16 : List Nat := [0, 0, 0, 4, 0, 16, 48, 126, 254, 511, 1023, 2047, 2047, 2047, 0, 20479, 57343, 131071]
theorem laws_FnPacketMarks.tab16 : rtab .any (opsOf Tryd.f8 16) = laws_FnPacketMarks.T16 := by kernel_rfl
theorem laws_FnPacketMarks.bits16 : waitsOk laws_FnPacketMarks.T16.2 laws_FnPacketMarks.B16 = true := by kernel_rfl
set_option maxHeartbeats 8000000 in
set_option maxRecDepth 100000 in
theorem laws_FnPacketMarks.calls (k : Nat) (a0_0 : Int) (a0_1 : Int) (a0_2 : Int) (a0_3 : Int) (a0_4 : Int) (a0_5 : Int) (a0_6 : Int) (a0_7 : Int) (a0_8 : Int) (a0_9 : Bool) (A1 : Option Addr) (c1 : Nat) (l1 : List Int) (r : Bool) (w : World) (hr1 : Kd.C (Kd.int .u8) w A1 l1.length l1) (hc1 : l1.length ≤ c1) (h : laws_FnPacketMarks.f k a0_0 a0_1 a0_2 a0_3 a0_4 a0_5 a0_6 a0_7 a0_8 a0_9 l1 = some r) :
    Calls Tryd.prog 8 #[.agg #[.int .u16 a0_0, .int .u16 a0_1, .int .u16 a0_2, .int .u16 a0_3, .int .u16 a0_4, .int .u8 a0_5, .int .u8 a0_6, .int .u32 a0_7, .int .u32 a0_8, .bool a0_9], .slice A1 l1.length c1] w fun e w' => e = .returned (.bool r) ∧ Below w.heap.size w w' := by
  have hu34 := Tryd.underlying34
  have hu28 := Tryd.underlying28
  have HR1 := Aside0.mk hr1
  have HC1 := Aside0.mk hc1
  clear hr1 hc1
  have HB := Aside0.mk (Below.refl w.heap.size w)
  have H : (if (l1.length : Int) > 2147483647 then (some true) else (if (l1.length : Int) > 20 then ((laws_packetAwake.f).bind fun t102 => (some t102)) else (laws_FnPacketMarks.l0 k l1 ([] : List Int) l1 (l1.length : Int) 0 a0_0 a0_1 a0_2 a0_3 a0_4 a0_5 a0_6 a0_7 a0_8 a0_9))) = some r := h
  clear h
  by_cases c3 : (l1.length : Int) > 2147483647
  · rw [if_pos c3] at H
    have c3b0 : decide (2147483647 < (l1.length : Int)) = true := decide_eq_true c3
    have c3b1 : decide (2147483647 < l1.length) = true := decide_eq_true (by omega)
    clear c3
    obtain rfl := Option.some.inj H
    go_enter Tryd.func8, Tryd.ntmps8
    go_wp2_with (first | ((with_reducible refine gate_dst (N := 2) rfl ?_); refine box_event ?hg (N := 2) ?hd (cs := #[.int .u16 a0_0, .int .u16 a0_1, .int .u16 a0_2, .int .u16 a0_3, .int .u16 a0_4, .int .u8 a0_5, .int .u8 a0_6, .int .u32 a0_7, .int .u32 a0_8, .bool a0_9]) (t := 34) ?hr ?_; (case hd => rfl); (case hg => rfl); (case hr => first | (go_simp; done) | (go_simp; rfl)); intro gb101 hg w4 hbox hb; have n0_ := Aside0.mk (below_step (by repeat (first | (with_reducible first | exact HB.out | apply below_alloc | apply pw_below_drewN | apply below_drew1) | exact HB.out)) hb); have n1_ := Aside0.mk (hbox); have n2_ := Aside0.mk ((by rw [hg]; exact (below_size (by repeat (first | (with_reducible first | exact HB.out | apply below_alloc | apply pw_below_drewN | apply below_drew1) | exact HB.out))) : w.heap.size ≤ gb101)); have n3_ := Aside0.mk ((by rw [hg]; exact (below_size (by repeat (first | (with_reducible first | exact HB.out | apply below_alloc | apply pw_below_drewN | apply below_drew1) | exact HB.out))) : w.heap.size ≤ gb101)); clear HB; have HB := n0_; have BK101 := n1_; have GW101 := n2_; have GE101 := n3_; clear n0_ n1_ n2_ n3_; clear hb hbox hg))
    go_ret
    exact ⟨by first | rfl | (simp [errW_none, errW_some] <;> rfl) | (simp [*, errW_none, errW_some] <;> rfl), by repeat (first | (with_reducible first | exact HB.out | apply below_alloc | apply pw_below_drewN | apply below_drew1 | refine below_set ?_ GE101.out) | exact HB.out)⟩
  · rw [if_neg c3] at H
    have c3b0 : decide (2147483647 < (l1.length : Int)) = false := decide_eq_false c3
    have c3b1 : decide (2147483647 < l1.length) = false := decide_eq_false (by omega)
    clear c3
    by_cases c5 : (l1.length : Int) > 20
    · rw [if_pos c5] at H
      have c5b0 : decide (20 < (l1.length : Int)) = true := decide_eq_true c5
      have c5b1 : decide (20 < l1.length) = true := decide_eq_true (by omega)
      clear c5
      replace H := Option.bind_eq_some_iff.mp H
      obtain ⟨t102, A60, H⟩ := H
      replace H : (some t102) = some r := H
      have A6 := Aside0.mk A60
      clear A60
      obtain rfl := Option.some.inj H
      go_enter Tryd.func8, Tryd.ntmps8
      go_wp2_with (first | ((with_reducible refine gate_dst (N := 2) rfl ?_); refine box_event ?hg (N := 2) ?hd (cs := #[.int .u16 a0_0, .int .u16 a0_1, .int .u16 a0_2, .int .u16 a0_3, .int .u16 a0_4, .int .u8 a0_5, .int .u8 a0_6, .int .u32 a0_7, .int .u32 a0_8, .bool a0_9]) (t := 34) ?hr ?_; (case hd => rfl); (case hg => rfl); (case hr => first | (go_simp; done) | (go_simp; rfl)); intro gb101 hg w7 hbox hb; have n0_ := Aside0.mk (below_step (by repeat (first | (with_reducible first | exact HB.out | apply below_alloc | apply pw_below_drewN | apply below_drew1) | exact HB.out)) hb); have n1_ := Aside0.mk (hbox); have n2_ := Aside0.mk ((by rw [hg]; exact (below_size (by repeat (first | (with_reducible first | exact HB.out | apply below_alloc | apply pw_below_drewN | apply below_drew1) | exact HB.out))) : w.heap.size ≤ gb101)); have n3_ := Aside0.mk ((by rw [hg]; exact (below_size (by repeat (first | (with_reducible first | exact HB.out | apply below_alloc | apply pw_below_drewN | apply below_drew1) | exact HB.out))) : w.heap.size ≤ gb101)); clear HB; have HB := n0_; have BK101 := n1_; have GW101 := n2_; have GE101 := n3_; clear n0_ n1_ n2_ n3_; clear hb hbox hg) | ((with_reducible refine gate_callee (f := 9) rfl ?_); refine goesL_ (some 19) rfl rfl Tryd.func9 (by kernel_rfl) rfl #[] rfl (by (try simp only [List.map_toArray, List.map_cons, List.map_nil]); first | done | rfl | (simp only [List.length_drop, List.length_take]; rfl)) ?_; (with_reducible refine (laws_packetAwake.calls  t102 _ A6.out).mono ?_); rintro e w8 ⟨rfl, hb⟩; refine ⟨_, rfl, ?_⟩; have n0_ := Aside0.mk (blk_below (g := gb101) (o := .cells #[.int .u16 a0_0, .int .u16 a0_1, .int .u16 a0_2, .int .u16 a0_3, .int .u16 a0_4, .int .u8 a0_5, .int .u8 a0_6, .int .u32 a0_7, .int .u32 a0_8, .bool a0_9] 34 (0, 0)) (by (with_reducible repeat (first | refine blk_drewN ?_ _ | refine blk_drew ?_ | refine blk_alloc ?_ _)); exact BK101.out) hb); have n1_ := Aside0.mk (below_step (by repeat (first | (with_reducible first | exact HB.out | apply below_alloc | apply pw_below_drewN | apply below_drew1 | refine below_set ?_ GE101.out) | exact HB.out)) hb); clear BK101; clear HB; have BK101 := n0_; have HB := n1_; clear n0_ n1_; (try clear hb); (try clear hb2); (try clear hk); (try clear hi)))
      go_ret
      exact ⟨by first | rfl | (simp [errW_none, errW_some] <;> rfl) | (simp [*, errW_none, errW_some] <;> rfl), by repeat (first | (with_reducible first | exact HB.out | apply below_alloc | apply pw_below_drewN | apply below_drew1 | refine below_set ?_ GE101.out) | exact HB.out)⟩
    · rw [if_neg c5] at H
      have c5b0 : decide (20 < (l1.length : Int)) = false := decide_eq_false c5
      have c5b1 : decide (20 < l1.length) = false := decide_eq_false (by omega)
      clear c5
      have H' := Aside0.mk H
      clear H
      go_enter Tryd.func8, Tryd.ntmps8
      go_wp2_with (first | ((with_reducible refine gate_dst (N := 2) rfl ?_); refine box_event ?hg (N := 2) ?hd (cs := #[.int .u16 a0_0, .int .u16 a0_1, .int .u16 a0_2, .int .u16 a0_3, .int .u16 a0_4, .int .u8 a0_5, .int .u8 a0_6, .int .u32 a0_7, .int .u32 a0_8, .bool a0_9]) (t := 34) ?hr ?_; (case hd => rfl); (case hg => rfl); (case hr => first | (go_simp; done) | (go_simp; rfl)); intro gb101 hg w9 hbox hb; have n0_ := Aside0.mk (below_step (by repeat (first | (with_reducible first | exact HB.out | apply below_alloc | apply pw_below_drewN | apply below_drew1) | exact HB.out)) hb); have n1_ := Aside0.mk (hbox); have n2_ := Aside0.mk ((by rw [hg]; exact (below_size (by repeat (first | (with_reducible first | exact HB.out | apply below_alloc | apply pw_below_drewN | apply below_drew1) | exact HB.out))) : w.heap.size ≤ gb101)); have n3_ := Aside0.mk ((by rw [hg]; exact (below_size (by repeat (first | (with_reducible first | exact HB.out | apply below_alloc | apply pw_below_drewN | apply below_drew1) | exact HB.out))) : w.heap.size ≤ gb101)); clear HB; have HB := n0_; have BK101 := n1_; have GW101 := n2_; have GE101 := n3_; clear n0_ n1_ n2_ n3_; clear hb hbox hg))
      go_loopg [5, 22] k (fun kq v5 v22 w' => ∃ (x5_1 : List Int) (x22_1 : Int), v22 = .int .i64 x22_1 ∧ Aside0 (laws_FnPacketMarks.l0 kq l1 x5_1 l1 (l1.length : Int) x22_1 a0_0 a0_1 a0_2 a0_3 a0_4 a0_5 a0_6 a0_7 a0_8 a0_9 = some r) ∧ Aside0 (kq ≤ k) ∧ Aside0 (Kd.R (Kd.int .u8) 5 w' w.heap.size (fun _ => True) v5 x5_1) ∧ Aside0 (w'.heap[gb101]? = some (.cells #[.int .u16 a0_0, .int .u16 a0_1, .int .u16 a0_2, .int .u16 a0_3, .int .u16 a0_4, .int .u8 a0_5, .int .u8 a0_6, .int .u32 a0_7, .int .u32 a0_8, .bool a0_9] 34 (0, 0))) ∧ Aside0 (Below w.heap.size w w'))
      case atStart => exact ⟨(([] : List Int)), (0), (by first | rfl | (simp; done) | (simp [*]; done)), H', ⟨Nat.le_refl _⟩, ⟨by first | exact Kd.R_nil _ _ _ _ _ | exact Kd.N_nil _ _ _ _ _ | exact Kd.V_nil _ _ _ _ _ | exact Kd.Q_nil _ _ _ _ _ | exact Kd.S_nil _ _ _ _ _⟩, ⟨by (with_reducible repeat (first | refine blk_drewN ?_ _ | refine blk_drew ?_ | refine blk_alloc ?_ _)); exact BK101.out⟩, ⟨by repeat (first | (with_reducible first | exact HB.out | apply below_alloc | apply pw_below_drewN | apply below_drew1 | refine below_set ?_ GE101.out) | exact HB.out)⟩⟩
      case round =>
        clear H'
        try clear c1
        try clear p2
        try clear c3
        try clear c3b0
        try clear c3b1
        try clear c5
        try clear c5b0
        try clear c5b1
        try clear c8
        try clear c9
        obtain ⟨x5_1, x22_1, rfl, HA, HK1, HO_5, BK101, HB⟩ := hrel
        cases gk with
        | zero => exact absurd HA.out (by simp [laws_FnPacketMarks.l0])
        | succ k1 =>
          have H := HA.out
          clear HA
          simp only [laws_FnPacketMarks.l0] at H
          by_cases c10 : x22_1 < (l1.length : Int)
          · rw [if_pos c10] at H
            have c10b0 : decide (x22_1 < (l1.length : Int)) = true := decide_eq_true c10
            clear c10
            by_cases c11 : 0 ≤ x22_1
            · rw [if_pos c11] at H
              have c11b0 : decide (0 ≤ x22_1) = true := decide_eq_true c11
              clear c11
              by_cases c12 : x22_1 < (l1.length : Int)
              · rw [if_pos c12] at H
                have c12b0 : decide (x22_1 < (l1.length : Int)) = true := decide_eq_true c12
                clear c12
                replace H := Option.bind_eq_some_iff.mp H
                obtain ⟨t104, A130, H⟩ := H
                replace H : (if x5_1.length + t104.length < 140737488355328 then (laws_FnPacketMarks.l0 k1 l1 (x5_1 ++ t104) l1 (l1.length : Int) (wrap64 (x22_1 + 1)) a0_0 a0_1 a0_2 a0_3 a0_4 a0_5 a0_6 a0_7 a0_8 a0_9) else (none)) = some r := H
                have A13 := Aside0.mk A130
                clear A130
                by_cases c14 : x5_1.length + t104.length < 140737488355328
                · rw [if_pos c14] at H
                  have LMc14 := Aside0.mk c14
                  clear c14
                  obtain ⟨y107, hy107⟩ : ∃ y_ : List Int, y_ = (x5_1 ++ t104) := ⟨_, rfl⟩
                  replace H : (laws_FnPacketMarks.l0 k1 l1 y107 l1 (l1.length : Int) (wrap64 (x22_1 + 1)) a0_0 a0_1 a0_2 a0_3 a0_4 a0_5 a0_6 a0_7 a0_8 a0_9) = some r := by first | (rw [hy107]; with_reducible exact H) | (have H2_ := (Option.bind_some _ _).symm.trans H; rw [hy107]; with_reducible exact H2_) | (have H2_ := (Option.bind_some _ _).symm.trans H; with_reducible exact H2_) | with_reducible exact H | (rw [hy107]; exact H) | exact H
                  have Ny107 := Aside0.mk hy107
                  clear hy107
                  have H' := Aside0.mk H
                  clear H
                  have p103 : 0 ≤ (x22_1 : Int) := of_decide_eq_true (by first | (with_reducible assumption) | assumption)
                  have q103 : x22_1 < (l1.length : Int) := of_decide_eq_true (by first | (with_reducible assumption) | assumption)
                  obtain ⟨ad103, e103, hx103_0⟩ := Kd.at_int HR1.out x22_1 p103 q103
                  cases e103
                  replace hx103_0 := (HB.out.cell (World.block_lt_of_cell? w _ hx103_0)).trans hx103_0
                  replace p103 := eq_true p103
                  replace q103 := eq_true q103
                  have hcz15_0 : wr.cell? ⟨gb101, 0, none⟩ = some (.int .u16 a0_0) := (blk_cell BK101.out 0).trans rfl
                  have hcz15_1 : wr.cell? ⟨gb101, 1, none⟩ = some (.int .u16 a0_1) := (blk_cell BK101.out 1).trans rfl
                  have hcz15_2 : wr.cell? ⟨gb101, 2, none⟩ = some (.int .u16 a0_2) := (blk_cell BK101.out 2).trans rfl
                  have hcz15_3 : wr.cell? ⟨gb101, 3, none⟩ = some (.int .u16 a0_3) := (blk_cell BK101.out 3).trans rfl
                  have hcz15_4 : wr.cell? ⟨gb101, 4, none⟩ = some (.int .u16 a0_4) := (blk_cell BK101.out 4).trans rfl
                  have hcz15_5 : wr.cell? ⟨gb101, 5, none⟩ = some (.int .u8 a0_5) := (blk_cell BK101.out 5).trans rfl
                  have hcz15_6 : wr.cell? ⟨gb101, 6, none⟩ = some (.int .u8 a0_6) := (blk_cell BK101.out 6).trans rfl
                  have hcz15_7 : wr.cell? ⟨gb101, 7, none⟩ = some (.int .u32 a0_7) := (blk_cell BK101.out 7).trans rfl
                  have hcz15_8 : wr.cell? ⟨gb101, 8, none⟩ = some (.int .u32 a0_8) := (blk_cell BK101.out 8).trans rfl
                  have hcz15_9 : wr.cell? ⟨gb101, 9, none⟩ = some (.bool a0_9) := (blk_cell BK101.out 9).trans rfl
                  have hfz15_0 := blk_frozen BK101.out 0
                  have hfz15_1 := blk_frozen BK101.out 1
                  have hfz15_2 := blk_frozen BK101.out 2
                  have hfz15_3 := blk_frozen BK101.out 3
                  have hfz15_4 := blk_frozen BK101.out 4
                  have hfz15_5 := blk_frozen BK101.out 5
                  have hfz15_6 := blk_frozen BK101.out 6
                  have hfz15_7 := blk_frozen BK101.out 7
                  have hfz15_8 := blk_frozen BK101.out 8
                  have hfz15_9 := blk_frozen BK101.out 9
                  go_wp2_with (first | ((with_reducible refine gate_callee (f := 21) rfl ?_); refine goesL_ (some 29) rfl rfl Tryd.func21 (by kernel_rfl) rfl #[.agg #[.int .u16 a0_0, .int .u16 a0_1, .int .u16 a0_2, .int .u16 a0_3, .int .u16 a0_4, .int .u8 a0_5, .int .u8 a0_6, .int .u32 a0_7, .int .u32 a0_8, .bool a0_9], .int .u8 (rd l1 x22_1)] rfl (by (try simp only [List.map_toArray, List.map_cons, List.map_nil]); first | done | rfl | (simp only [List.length_drop, List.length_take]; rfl)) ?_; (with_reducible refine (impl_MarkerBytes.calls a0_0 a0_1 a0_2 a0_3 a0_4 a0_5 a0_6 a0_7 a0_8 a0_9 (rd l1 x22_1) t104 _ A13.out).mono ?_); rintro e w16 ⟨v105, rfl, ho0, hb⟩; refine ⟨_, rfl, ?_⟩; have n0_ := Aside0.mk (Kd.R_elder' (by (with_reducible repeat (first | apply Kd.R_alloc | apply Kd.R_drewN | apply Kd.R_drew)); exact HO_5.out) (Kd.R_base ho0) hb); have n1_ := Aside0.mk (Kd.R_lower (Kd.R_new' ho0 (Kd.R_lt (by (with_reducible repeat (first | apply Kd.R_alloc | apply Kd.R_drewN | apply Kd.R_drew)); exact HO_5.out))) (below_size (by repeat (first | (with_reducible first | exact HB.out | apply below_alloc | apply pw_below_drewN | apply below_drew1 | refine below_set ?_ GE101.out) | exact HB.out)))); have n2_ := Aside0.mk (blk_below (g := gb101) (o := .cells #[.int .u16 a0_0, .int .u16 a0_1, .int .u16 a0_2, .int .u16 a0_3, .int .u16 a0_4, .int .u8 a0_5, .int .u8 a0_6, .int .u32 a0_7, .int .u32 a0_8, .bool a0_9] 34 (0, 0)) (by (with_reducible repeat (first | refine blk_drewN ?_ _ | refine blk_drew ?_ | refine blk_alloc ?_ _)); exact BK101.out) hb); have n3_ := Aside0.mk (below_step (by repeat (first | (with_reducible first | exact HB.out | apply below_alloc | apply pw_below_drewN | apply below_drew1 | refine below_set ?_ GE101.out) | exact HB.out)) hb); clear HO_5; clear BK101; clear HB; have HO_5 := n0_; have HO106 := n1_; have BK101 := n2_; have HB := n3_; clear n0_ n1_ n2_ n3_; (try clear hb); (try clear hb2); (try clear hk); (try clear hi); (try clear ho0); obtain ⟨Ao18, co18, eo18⟩ := Kd.R_slice HO106.out; subst eo18) | ((with_reducible refine gate_builtin (b := .append) (xs := #[.tmp 26, .tmp 29]) rfl ?_); at_builtin; refine Kd.R_append_rows (Kd.int .u8) (w0 := w) w.heap.size rfl (.tmp 26) (.tmp 29) 24 5 (.int .u8 0) 1 rfl Tryd.underlying24 info5 rfl (by decide) (by omega) u5 x5_1 t104 _ _ _ (fun k_ => some k_ ≠ (.slice Ao18 t104.length co18 : Value).ownBlock) (fun _ => False) rfl rfl ?aO ?aR (fun _ _ h => h) (fun _ h => h.elim) ?aF ?aB ?aS ?aL ?_; (case aR => repeat (first | exact (Kd.R_reads' HO106.out).2.2 | (with_reducible refine Kd.C_alloc ?_ _) | (with_reducible refine Kd.C_drewN ?_ _) | (with_reducible refine Kd.C_drew ?_))); (case aB => exact (by repeat (first | (with_reducible first | exact HB.out | apply below_alloc | apply pw_below_drewN | apply below_drew1 | refine below_set ?_ GE101.out) | exact HB.out))); (case aF => exact (fun k_ hk => Kd.fresh' (Kd.R_lt (by (with_reducible repeat (first | apply Kd.R_alloc | apply Kd.R_drewN | apply Kd.R_drew)); exact HO106.out)) k_ hk)); (case aO => exact (by (with_reducible repeat (first | apply Kd.R_alloc | apply Kd.R_drewN | apply Kd.R_drew)); exact Kd.R_mono HO_5.out (fun _ hk => hk.2))); (case aS => exact (below_size (by repeat (first | (with_reducible first | exact HB.out | apply below_alloc | apply pw_below_drewN | apply below_drew1 | refine below_set ?_ GE101.out) | exact HB.out)))); (case aL => have := LMc14.out; omega); intro v108 w17 ho hb hg hat; rw [← Ny107.out] at ho; have n0_ := Aside0.mk (blk_grown (g := gb101) (o := .cells #[.int .u16 a0_0, .int .u16 a0_1, .int .u16 a0_2, .int .u16 a0_3, .int .u16 a0_4, .int .u8 a0_5, .int .u8 a0_6, .int .u32 a0_7, .int .u32 a0_8, .bool a0_9] 34 (0, 0)) (by (with_reducible repeat (first | refine blk_drewN ?_ _ | refine blk_drew ?_ | refine blk_alloc ?_ _)); exact BK101.out) hg (Kd.R_ne HO_5.out BK101.out (by decide))); have n1_ := Aside0.mk (Kd.R_after (ok := (fun _ => True)) (by (with_reducible repeat (first | apply Kd.R_alloc | apply Kd.R_drewN | apply Kd.R_drew)); exact HO106.out) hg hat); have n2_ := Aside0.mk (hb); have n3_ := Aside0.mk (ho); clear BK101; clear HO106; clear HB; clear HO_5; have BK101 := n0_; have HO106 := n1_; have HB := n2_; have HO109 := n3_; clear n0_ n1_ n2_ n3_; clear ho hb hg hat))
                  go_roundg k1
                  case measure => have := HK1.out; omega
                  case rel => exact ⟨(y107), (wrap64 (x22_1 + 1)), (by first | rfl | (simp; done) | (simp [*]; done)), H', ⟨by have := HK1.out; omega⟩, ⟨by (with_reducible repeat (first | apply Kd.R_alloc | apply Kd.R_drewN | apply Kd.R_drew)); exact Kd.R_mono HO109.out (fun _ hk => trivial)⟩, ⟨by (with_reducible repeat (first | refine blk_drewN ?_ _ | refine blk_drew ?_ | refine blk_alloc ?_ _)); exact BK101.out⟩, ⟨by repeat (first | (with_reducible first | exact HB.out | apply below_alloc | apply pw_below_drewN | apply below_drew1 | refine below_set ?_ GE101.out) | exact HB.out)⟩⟩
                · rw [if_neg c14] at H
                  exact absurd H (by simp)
              · rw [if_neg c12] at H
                exact absurd H (by simp)
            · rw [if_neg c11] at H
              exact absurd H (by simp)
          · rw [if_neg c10] at H
            have c10b0 : decide (x22_1 < (l1.length : Int)) = false := decide_eq_false c10
            clear c10
            by_cases c19 : (x5_1.length : Int) = (wrap64 (11 * (l1.length : Int)))
            · rw [if_pos c19] at H
              have c19b0 : ((x5_1.length : Int) == (wrap64 (11 * (l1.length : Int)))) = true := beq_iff_eq.mpr c19
              have c19b1 : ((x5_1.length : Int) != (wrap64 (11 * (l1.length : Int)))) = false := bne_eq_false_iff_eq.mpr c19
              clear c19
              have H' := Aside0.mk H
              clear H
              obtain ⟨Ao20, co20, eo20⟩ := Kd.R_slice HO_5.out
              subst eo20
              go_wp2
              go_loopg [40] k1 (fun kq v40 w' => ∃ (x40_2 : Int), v40 = .int .i64 x40_2 ∧ Aside0 (laws_FnPacketMarks.l1 kq x5_1 l1 (l1.length : Int) x40_2 a0_0 a0_1 a0_2 a0_3 a0_4 a0_5 a0_6 a0_7 a0_8 a0_9 = some r) ∧ Aside0 (kq ≤ k1) ∧ Aside0 (Kd.R (Kd.int .u8) 5 w' w.heap.size (fun _ => True) (.slice Ao20 x5_1.length co20) x5_1) ∧ Aside0 (w'.heap[gb101]? = some (.cells #[.int .u16 a0_0, .int .u16 a0_1, .int .u16 a0_2, .int .u16 a0_3, .int .u16 a0_4, .int .u8 a0_5, .int .u8 a0_6, .int .u32 a0_7, .int .u32 a0_8, .bool a0_9] 34 (0, 0))) ∧ Aside0 (Below w.heap.size w w'))
              case atStart => exact ⟨(0), (by first | rfl | (simp; done) | (simp [*]; done)), H', ⟨Nat.le_refl _⟩, ⟨by (with_reducible repeat (first | apply Kd.R_alloc | apply Kd.R_drewN | apply Kd.R_drew)); exact HO_5.out⟩, ⟨by (with_reducible repeat (first | refine blk_drewN ?_ _ | refine blk_drew ?_ | refine blk_alloc ?_ _)); exact BK101.out⟩, ⟨by repeat (first | (with_reducible first | exact HB.out | apply below_alloc | apply pw_below_drewN | apply below_drew1 | refine below_set ?_ GE101.out) | exact HB.out)⟩⟩
              case round =>
                clear H'
                try clear c1
                try clear p1
                try clear q1
                try clear hx1
                try clear c2
                try clear p2
                try clear c3
                try clear c3b0
                try clear c3b1
                try clear c5
                try clear c5b0
                try clear c5b1
                try clear p6
                try clear c8
                try clear c9
                try clear c10
                try clear c10b0
                try clear p10
                try clear q10
                try clear hx10
                try clear c11
                try clear c11b0
                try clear c12
                try clear c12b0
                try clear c14
                try clear c19
                try clear c19b0
                try clear c19b1
                try clear hcz15_0
                try clear hcz15_1
                try clear hcz15_2
                try clear hcz15_3
                try clear hcz15_4
                try clear hcz15_5
                try clear hcz15_6
                try clear hcz15_7
                try clear hcz15_8
                try clear hcz15_9
                try clear hfz15_0
                try clear hfz15_1
                try clear hfz15_2
                try clear hfz15_3
                try clear hfz15_4
                try clear hfz15_5
                try clear hfz15_6
                try clear hfz15_7
                try clear hfz15_8
                try clear hfz15_9
                try clear hx103_0
                try clear p103
                try clear p2
                try clear q103
                obtain ⟨x40_2, rfl, HA, HK2, HO_5, BK101, HB⟩ := hrel
                cases gk with
                | zero => exact absurd HA.out (by simp [laws_FnPacketMarks.l1])
                | succ k2 =>
                  have H := HA.out
                  clear HA
                  simp only [laws_FnPacketMarks.l1] at H
                  by_cases c21 : x40_2 < (l1.length : Int)
                  · rw [if_pos c21] at H
                    have c21b0 : decide (x40_2 < (l1.length : Int)) = true := decide_eq_true c21
                    clear c21
                    by_cases c22 : 0 ≤ x40_2
                    · rw [if_pos c22] at H
                      have c22b0 : decide (0 ≤ x40_2) = true := decide_eq_true c22
                      clear c22
                      by_cases c23 : x40_2 < (l1.length : Int)
                      · rw [if_pos c23] at H
                        have c23b0 : decide (x40_2 < (l1.length : Int)) = true := decide_eq_true c23
                        clear c23
                        obtain ⟨ji24, hji24⟩ : ∃ j_ : Int, (wrap64 (11 * x40_2)) = j_ := ⟨_, rfl⟩
                        replace H : (if 0 ≤ (ji24) then (if (ji24) ≤ (wrap64 ((ji24) + 11)) then (if (wrap64 ((ji24) + 11)) ≤ (x5_1.length : Int) then ((bytes_Clone.f ((x5_1.take ((wrap64 ((ji24) + 11)) : Int).toNat).drop ((ji24) : Int).toNat)).bind fun t116 => ((impl_MarkerRead.f a0_0 a0_1 a0_2 a0_3 a0_4 a0_5 a0_6 a0_7 a0_8 a0_9 t116).bind fun bt119 => (if bt119.2.2.2.2.2 = true then (if bt119.2.2.2.2.1 = (rd l1 x40_2) then (laws_FnPacketMarks.l1 k2 x5_1 l1 (l1.length : Int) (wrap64 (x40_2 + 1)) a0_0 a0_1 a0_2 a0_3 a0_4 a0_5 a0_6 a0_7 a0_8 a0_9) else (some false)) else (some false)))) else (none)) else (none)) else (none)) = some r := by first | (rw [hji24] at H; exact H) | (simp only [hji24] at H ⊢; exact H)
                        have hji24w : (IntKind.i64.wrap (11 * x40_2)) = ji24 := (i64_w _).trans hji24
                        by_cases c25 : 0 ≤ (ji24)
                        · rw [if_pos c25] at H
                          have c25b0 := eq_true c25
                          have c25b1 : decide (0 ≤ (ji24)) = true := decide_eq_true c25
                          clear c25
                          by_cases c26 : (ji24) ≤ (wrap64 ((ji24) + 11))
                          · rw [if_pos c26] at H
                            have c26b0 := eq_true c26
                            have c26b1 : decide ((ji24) ≤ (wrap64 ((ji24) + 11))) = true := decide_eq_true c26
                            by_cases c27 : (wrap64 ((ji24) + 11)) ≤ (x5_1.length : Int)
                            · rw [if_pos c27] at H
                              have c27b0 := eq_true c27
                              have c27b1 : decide ((wrap64 ((ji24) + 11)) ≤ (x5_1.length : Int)) = true := decide_eq_true c27
                              obtain ⟨y112, hy112⟩ : ∃ y_ : List Int, y_ = ((x5_1.take ((wrap64 ((ji24) + 11)) : Int).toNat).drop ((ji24) : Int).toNat) := ⟨_, rfl⟩
                              replace H : ((bytes_Clone.f y112).bind fun t116 => ((impl_MarkerRead.f a0_0 a0_1 a0_2 a0_3 a0_4 a0_5 a0_6 a0_7 a0_8 a0_9 t116).bind fun bt119 => (if bt119.2.2.2.2.2 = true then (if bt119.2.2.2.2.1 = (rd l1 x40_2) then (laws_FnPacketMarks.l1 k2 x5_1 l1 (l1.length : Int) (wrap64 (x40_2 + 1)) a0_0 a0_1 a0_2 a0_3 a0_4 a0_5 a0_6 a0_7 a0_8 a0_9) else (some false)) else (some false)))) = some r := by first | (rw [hy112]; with_reducible exact H) | (have H2_ := (Option.bind_some _ _).symm.trans H; rw [hy112]; with_reducible exact H2_) | (have H2_ := (Option.bind_some _ _).symm.trans H; with_reducible exact H2_) | with_reducible exact H | (rw [hy112]; exact H) | exact H
                              have Ny112 := Aside0.mk hy112
                              clear hy112
                              replace H := Option.bind_eq_some_iff.mp H
                              obtain ⟨t116, A280, H⟩ := H
                              replace H : ((impl_MarkerRead.f a0_0 a0_1 a0_2 a0_3 a0_4 a0_5 a0_6 a0_7 a0_8 a0_9 t116).bind fun bt119 => (if bt119.2.2.2.2.2 = true then (if bt119.2.2.2.2.1 = (rd l1 x40_2) then (laws_FnPacketMarks.l1 k2 x5_1 l1 (l1.length : Int) (wrap64 (x40_2 + 1)) a0_0 a0_1 a0_2 a0_3 a0_4 a0_5 a0_6 a0_7 a0_8 a0_9) else (some false)) else (some false))) = some r := H
                              have A28 := Aside0.mk A280
                              clear A280
                              replace H := Option.bind_eq_some_iff.mp H
                              obtain ⟨⟨t119, t120, t121, t122, t123, t124⟩, A290, H⟩ := H
                              replace H : (if t124 = true then (if t123 = (rd l1 x40_2) then (laws_FnPacketMarks.l1 k2 x5_1 l1 (l1.length : Int) (wrap64 (x40_2 + 1)) a0_0 a0_1 a0_2 a0_3 a0_4 a0_5 a0_6 a0_7 a0_8 a0_9) else (some false)) else (some false)) = some r := H
                              have A29 := Aside0.mk A290
                              clear A290
                              by_cases c30 : t124 = true
                              · subst c30
                                have H1 : (if t123 = (rd l1 x40_2) then (laws_FnPacketMarks.l1 k2 x5_1 l1 (l1.length : Int) (wrap64 (x40_2 + 1)) a0_0 a0_1 a0_2 a0_3 a0_4 a0_5 a0_6 a0_7 a0_8 a0_9) else (some false)) = some r := by rw [if_pos rfl] at H; exact H
                                clear H
                                have H := H1
                                clear H1
                                by_cases c31 : t123 = (rd l1 x40_2)
                                · rw [if_pos c31] at H
                                  have c31b0 : (t123 == (rd l1 x40_2)) = true := beq_iff_eq.mpr c31
                                  have c31b1 : (t123 != (rd l1 x40_2)) = false := bne_eq_false_iff_eq.mpr c31
                                  clear c31
                                  have H' := Aside0.mk H
                                  clear H
                                  have p111 : 0 ≤ (x40_2 : Int) := of_decide_eq_true (by first | (with_reducible assumption) | assumption)
                                  have q111 : x40_2 < (l1.length : Int) := of_decide_eq_true (by first | (with_reducible assumption) | assumption)
                                  obtain ⟨ad111, e111, hx111_0⟩ := Kd.at_int HR1.out x40_2 p111 q111
                                  cases e111
                                  replace hx111_0 := (HB.out.cell (World.block_lt_of_cell? w _ hx111_0)).trans hx111_0
                                  replace p111 := eq_true p111
                                  replace q111 := eq_true q111
                                  try go_wp2
                                  have n0_ := Aside0.mk (Kd.R_drew HO_5.out)
                                  have n1_ := Aside0.mk (blk_drew BK101.out)
                                  have n2_ := Aside0.mk (below_drew1 HB.out)
                                  clear HO_5
                                  clear BK101
                                  clear HB
                                  have HO_5 := n0_
                                  have BK101 := n1_
                                  have HB := n2_
                                  clear n0_ n1_ n2_
                                  have q33 : ((wrap64 ((ji24) + 11)) : Int) ≤ ((x5_1.length : Int) : Int) := of_decide_eq_true (by first | (with_reducible assumption) | assumption)
                                  obtain ⟨i033, hi033, _, hsz33, _⟩ := info_parts info5
                                  have hroom33 : x5_1.length ≤ co20 := (Kd.R_reads' HO_5.out).2.1
                                  have hC33 : Kd.C (Kd.int .u8) _ Ao20 x5_1.length x5_1 := (Kd.R_reads' HO_5.out).2.2
                                  have ql33 : ((ji24) : Int) ≤ ((wrap64 ((ji24) + 11)) : Int) := of_decide_eq_true (by first | (with_reducible assumption) | assumption)
                                  have q033 : (0 : Int) ≤ ((ji24) : Int) := of_decide_eq_true (by first | (with_reducible assumption) | assumption)
                                  have hcut33 := cut_mid (P := Tryd.prog) 24 5 .i64 .i64 Tryd.underlying24 hi033 1 hsz33 Ao20 x5_1.length co20 (ji24) (wrap64 ((ji24) + 11)) q033 ql33 q33 hroom33
                                  have hr33 := Kd.C_mid (lo := ((ji24) : Int).toNat) (hi := ((wrap64 ((ji24) + 11)) : Int).toNat) (c := co20) hC33 (by omega) (by omega) hroom33
                                  obtain ⟨A33, hA33⟩ : ∃ A1, A1 = (if co20 = ((ji24) : Int).toNat then Ao20 else (Ao20 : Option Addr).map (·.add (((ji24) : Int).toNat * 1))) := ⟨_, rfl⟩
                                  obtain ⟨c33, hc33⟩ : ∃ c1, c1 = co20 - ((ji24) : Int).toNat := ⟨_, rfl⟩
                                  have hy33 : y112.length = ((wrap64 ((ji24) + 11)) : Int).toNat - ((ji24) : Int).toNat := (by rw [Ny112.out, List.length_drop, List.length_take] <;> omega)
                                  rw [show ((x5_1).take ((wrap64 ((ji24) + 11)) : Int).toNat).drop ((ji24) : Int).toNat = y112 from Ny112.out.symm] at hr33
                                  replace hr33 : Kd.C (Kd.int .u8) _ A33 y112.length y112 := (by rw [hA33]; exact hr33)
                                  rw [← hy33, ← hA33, ← hc33] at hcut33
                                  have HR115 := Aside0.mk hr33
                                  have HC115 := Aside0.mk (show y112.length ≤ c33 from by rw [hy33, hc33]; exact Nat.sub_le_sub_right (Nat.le_trans (by omega) hroom33) _)
                                  clear hr33 hC33 hroom33 hi033 hsz33 hc33
                                  have KY33 := Aside0.mk hy33
                                  have KA33 := Aside0.mk hA33
                                  clear hy33 hA33
                                  have KL33 := Aside0.mk (show ((wrap64 ((ji24) + 11)) : Int).toNat ≤ x5_1.length from by omega)
                                  have KM33 := Aside0.mk (show ((ji24) : Int).toNat ≤ ((wrap64 ((ji24) + 11)) : Int).toNat from by omega)
                                  replace q33 := eq_true q33
                                  refine start_ (n := 18) (S := fun w' => w'.cell? ⟨gb101, 0, none⟩ = some (.int .u16 a0_0) ∧ w'.cell? ⟨gb101, 1, none⟩ = some (.int .u16 a0_1) ∧ w'.cell? ⟨gb101, 2, none⟩ = some (.int .u16 a0_2) ∧ w'.cell? ⟨gb101, 3, none⟩ = some (.int .u16 a0_3) ∧ w'.cell? ⟨gb101, 4, none⟩ = some (.int .u16 a0_4) ∧ w'.cell? ⟨gb101, 5, none⟩ = some (.int .u8 a0_5) ∧ w'.cell? ⟨gb101, 6, none⟩ = some (.int .u8 a0_6) ∧ w'.cell? ⟨gb101, 7, none⟩ = some (.int .u32 a0_7) ∧ w'.cell? ⟨gb101, 8, none⟩ = some (.int .u32 a0_8) ∧ w'.cell? ⟨gb101, 9, none⟩ = some (.bool a0_9)) (ds := []) #[false, false, false, false, false, false, false, false, false, false, false, false, false, false, false, false, false, false] (by kernel_rfl) rfl rfl ⟨(blk_cell BK101.out 0).trans rfl, (blk_cell BK101.out 1).trans rfl, (blk_cell BK101.out 2).trans rfl, (blk_cell BK101.out 3).trans rfl, (blk_cell BK101.out 4).trans rfl, (blk_cell BK101.out 5).trans rfl, (blk_cell BK101.out 6).trans rfl, (blk_cell BK101.out 7).trans rfl, (blk_cell BK101.out 8).trans rfl, (blk_cell BK101.out 9).trans rfl⟩ (fun hHeld => ?_); refine with_tabW laws_FnPacketMarks.tab16 laws_FnPacketMarks.bits16 (fun HT_ HW_ => ?_)
                                  generalize wr.drew = w32 at HO_5 BK101 HB HR115 hHeld ⊢
                                  refine pure_ (i := 1) (N := some 47) (v := ?_) (a' := ?_) #[false, true, false, false, false, false, false, false, false, false, false, false, false, false, false, false, false, false] rfl rfl (any_of HT_.out (by kernel_rfl)) (fun _ _ _ h => h) (Or.inl ⟨by rfl, ?_⟩) ?_ ?_
                                  rotate_left
                                  · intro w'
                                    go_simp
                                    with_reducible rfl
                                  rotate_left
                                  · simp only [Act.put, List.setIfInBounds_toArray, List.set_cons_zero, List.set_cons_succ, i64_w, i32_w]
                                    rfl
                                  refine pure_ (i := 2) (N := some 48) (v := ?_) (a' := ?_) #[false, true, true, false, false, false, false, false, false, false, false, false, false, false, false, false, false, false] rfl rfl (any_of HT_.out (by kernel_rfl)) (fun _ _ _ h => h) (Or.inl ⟨by rfl, ?_⟩) ?_ ?_
                                  rotate_left
                                  · intro w'
                                    go_simp
                                    with_reducible rfl
                                  rotate_left
                                  · simp only [Act.put, List.setIfInBounds_toArray, List.set_cons_zero, List.set_cons_succ, i64_w, i32_w]
                                    rfl
                                  refine pure_ (i := 3) (N := some 49) (v := ?_) (a' := ?_) #[false, true, true, true, false, false, false, false, false, false, false, false, false, false, false, false, false, false] rfl rfl (any_of HT_.out (by kernel_rfl)) (fun _ _ _ h => h) (Or.inl ⟨by rfl, ?_⟩) ?_ ?_
                                  rotate_left
                                  · intro w'
                                    go_simp
                                    with_reducible rfl
                                  rotate_left
                                  · simp only [Act.put, List.setIfInBounds_toArray, List.set_cons_zero, List.set_cons_succ, i64_w, i32_w]
                                    rfl
                                  refine pure_ (i := 4) (N := some 50) (v := ?_) (a' := ?_) #[false, true, true, true, true, false, false, false, false, false, false, false, false, false, false, false, false, false] rfl rfl (any_of HT_.out (by kernel_rfl)) (fun _ _ _ h => h) (Or.inl ⟨by rfl, ?_⟩) ?_ ?_
                                  rotate_left
                                  · intro w'
                                    go_simp
                                    with_reducible rfl
                                  rotate_left
                                  · simp only [Act.put, List.setIfInBounds_toArray, List.set_cons_zero, List.set_cons_succ, i64_w, i32_w]
                                    rfl
                                  refine pure_ (i := 5) (N := some 51) (v := ?_) (a' := ?_) #[false, true, true, true, true, true, false, false, false, false, false, false, false, false, false, false, false, false] rfl rfl (any_of HT_.out (by kernel_rfl)) (fun _ _ _ h => h) (Or.inl ⟨by rfl, ?_⟩) ?_ ?_
                                  rotate_left
                                  · intro w'
                                    go_simp
                                    with_reducible rfl
                                  rotate_left
                                  · simp only [Act.put, List.setIfInBounds_toArray, List.set_cons_zero, List.set_cons_succ, i64_w, i32_w]
                                    rfl
                                  refine pure_ (i := 6) (N := some 52) (v := ?_) (a' := ?_) #[false, true, true, true, true, true, true, false, false, false, false, false, false, false, false, false, false, false] rfl rfl (any_of HT_.out (by kernel_rfl)) (fun _ _ _ h => h) (Or.inl ⟨by rfl, ?_⟩) ?_ ?_
                                  rotate_left
                                  · intro w'
                                    go_simp
                                    with_reducible rfl
                                  rotate_left
                                  · simp only [Act.put, List.setIfInBounds_toArray, List.set_cons_zero, List.set_cons_succ, i64_w, i32_w]
                                    rfl
                                  refine pure_ (i := 7) (N := some 53) (v := ?_) (a' := ?_) #[false, true, true, true, true, true, true, true, false, false, false, false, false, false, false, false, false, false] rfl rfl (any_of HT_.out (by kernel_rfl)) (fun _ _ _ h => h) (Or.inl ⟨by rfl, ?_⟩) ?_ ?_
                                  rotate_left
                                  · intro w'
                                    go_simp
                                    with_reducible rfl
                                  rotate_left
                                  · simp only [Act.put, List.setIfInBounds_toArray, List.set_cons_zero, List.set_cons_succ, i64_w, i32_w]
                                    rfl
                                  refine take_ (i := 0) (N := some 46) (v := ?_) (a' := ?_) #[true, true, true, true, true, true, true, true, false, false, false, false, false, false, false, false, false, false] rfl rfl (take_ofW HT_.out HW_.out (by kernel_rfl)) (fun _ _ _ h => h) (Or.inl ⟨by rfl, ?_⟩) hHeld ?_ ?_
                                  rotate_left
                                  · rintro w' ⟨s0, s1, s2, s3, s4, s5, s6, s7, s8, s9⟩
                                    go_simp
                                    with_reducible rfl
                                  rotate_left
                                  · simp only [Act.put, List.setIfInBounds_toArray, List.set_cons_zero, List.set_cons_succ, i64_w, i32_w]
                                    rfl
                                  refine join_ (σ := Value × Nat) 3 #[true, true, true, true, true, true, true, true, true, true, true, true, true, true, true, false, false, false] (fun s_ => [(54, s_.1), (55, .tuple #[.agg #[.int .u32 t119, .int .u8 t120, .int .u8 t121, .int .u16 t122], .int .u8 t123, .bool true]), (10, .pointer (some ⟨s_.2, 0, none⟩)), (45, .tuple #[.agg #[.int .u32 t119, .int .u8 t120, .int .u8 t121, .int .u16 t122], .int .u8 t123, .bool true]), (56, .agg #[.int .u32 t119, .int .u8 t120, .int .u8 t121, .int .u16 t122]), (57, .int .u8 t123), (58, .bool true)]) (fun s_ w' => (w'.cell? ⟨gb101, 0, none⟩ = some (.int .u16 a0_0) ∧ w'.cell? ⟨gb101, 1, none⟩ = some (.int .u16 a0_1) ∧ w'.cell? ⟨gb101, 2, none⟩ = some (.int .u16 a0_2) ∧ w'.cell? ⟨gb101, 3, none⟩ = some (.int .u16 a0_3) ∧ w'.cell? ⟨gb101, 4, none⟩ = some (.int .u16 a0_4) ∧ w'.cell? ⟨gb101, 5, none⟩ = some (.int .u8 a0_5) ∧ w'.cell? ⟨gb101, 6, none⟩ = some (.int .u8 a0_6) ∧ w'.cell? ⟨gb101, 7, none⟩ = some (.int .u32 a0_7) ∧ w'.cell? ⟨gb101, 8, none⟩ = some (.int .u32 a0_8) ∧ w'.cell? ⟨gb101, 9, none⟩ = some (.bool a0_9)) ∧ (Kd.R (Kd.int .u8) 5 w' w.heap.size (fun k_ => some k_ ≠ (.slice Ao20 x5_1.length co20 : Value).ownBlock) s_.1 t116) ∧ (Kd.R (Kd.int .u8) 5 w' w.heap.size (fun k_ => some k_ ≠ (s_.1 : Value).ownBlock) (.slice Ao20 x5_1.length co20) x5_1) ∧ (w'.heap[gb101]? = some (.cells #[.int .u16 a0_0, .int .u16 a0_1, .int .u16 a0_2, .int .u16 a0_3, .int .u16 a0_4, .int .u8 a0_5, .int .u8 a0_6, .int .u32 a0_7, .int .u32 a0_8, .bool a0_9] 34 (0, 0))) ∧ (w'.heap[s_.2]? = some (.cells #[.int .u32 0, .int .u8 0, .int .u8 0, .int .u16 0] 28 (0, 0))) ∧ (w.heap.size ≤ s_.2) ∧ (w.heap.size ≤ s_.2) ∧ (gb101 ≠ s_.2) ∧ (s_.2 ≠ gb101) ∧ (Below w.heap.size w w')) ?_ ?_
                                  rotate_left
                                  · intro hCont
                                    refine two_ (i := 8) (j := 14) (Ni := some 54) (Nj := some 10) #[true, true, true, true, true, true, true, true, true, false, false, false, false, false, false, false, false, false] #[true, true, true, true, true, true, true, true, false, false, false, false, false, false, true, false, false, false] rfl rfl rfl rfl (two_of HT_.out (by kernel_rfl)) (by decide) (by decide) (fun K hK => ?_) (fun K hK => ?_)
                                    · skip
                                      refine goes_ Tryd.func12 (by kernel_rfl) rfl #[.slice A33 y112.length c33] (by rfl) rfl rfl (by (try simp only [List.map_toArray, List.map_cons, List.map_nil]); first | done | rfl | (simp only [List.length_drop, List.length_take]; rfl)) ?_
                                      with_reducible refine (bytes_Clone.calls _ _ y112 t116 _ ?side1 ?side2 A28.out).mono ?_
                                      (case side1 => repeat (first | exact (by repeat (first | (with_reducible exact HR115.out) | (with_reducible refine Kd.C_alloc ?_ _) | (with_reducible refine Kd.C_drewN ?_ _) | (with_reducible refine Kd.C_drew ?_) | exact HR115.out)) | (with_reducible refine Kd.C_alloc ?_ _) | (with_reducible refine Kd.C_drewN ?_ _) | (with_reducible refine Kd.C_drew ?_)))
                                      (case side2 => exact HC115.out)
                                      rintro e w34 ⟨v117, rfl, ho0, hb⟩
                                      refine ⟨_, rfl, ?_⟩
                                      have n0_ := Aside0.mk (Kd.R_elder' (by (with_reducible repeat (first | apply Kd.R_alloc | apply Kd.R_drewN | apply Kd.R_drew)); exact HO_5.out) (Kd.R_base ho0) hb)
                                      have n1_ := Aside0.mk (Kd.R_lower (Kd.R_new' ho0 (Kd.R_lt (by (with_reducible repeat (first | apply Kd.R_alloc | apply Kd.R_drewN | apply Kd.R_drew)); exact HO_5.out))) (below_size (by repeat (first | (with_reducible first | exact HB.out | apply below_alloc | apply pw_below_drewN | apply below_drew1 | refine below_set ?_ GE101.out) | exact HB.out))))
                                      have n2_ := Aside0.mk (blk_below (g := gb101) (o := .cells #[.int .u16 a0_0, .int .u16 a0_1, .int .u16 a0_2, .int .u16 a0_3, .int .u16 a0_4, .int .u8 a0_5, .int .u8 a0_6, .int .u32 a0_7, .int .u32 a0_8, .bool a0_9] 34 (0, 0)) (by (with_reducible repeat (first | refine blk_drewN ?_ _ | refine blk_drew ?_ | refine blk_alloc ?_ _)); exact BK101.out) hb)
                                      have n3_ := Aside0.mk (Kd.C_below (by repeat (first | (with_reducible exact HR115.out) | (with_reducible refine Kd.C_alloc ?_ _) | (with_reducible refine Kd.C_drewN ?_ _) | (with_reducible refine Kd.C_drew ?_) | exact HR115.out)) hb)
                                      have n4_ := Aside0.mk (below_step (by repeat (first | (with_reducible first | exact HB.out | apply below_alloc | apply pw_below_drewN | apply below_drew1 | refine below_set ?_ GE101.out) | exact HB.out)) hb)
                                      clear HO_5
                                      clear BK101
                                      clear HR115
                                      clear HB
                                      have HO_5 := n0_
                                      have HO118 := n1_
                                      have BK101 := n2_
                                      have HR115 := n3_
                                      have HB := n4_
                                      clear n0_ n1_ n2_ n3_ n4_
                                      (try clear hb)
                                      (try clear hb2)
                                      (try clear hk)
                                      (try clear hi)
                                      (try clear ho0)
                                      obtain ⟨Ao35, co35, eo35⟩ := Kd.R_slice HO118.out
                                      (first | subst eo35 | (injection eo35 with f1_ f2_ f3_; have f4_ := f1_.symm; have f5_ := f3_.symm; clear f1_ f2_ f3_; subst f4_; subst f5_))
                                      refine hK.out _ _ ⟨(blk_cell BK101.out 0).trans rfl, (blk_cell BK101.out 1).trans rfl, (blk_cell BK101.out 2).trans rfl, (blk_cell BK101.out 3).trans rfl, (blk_cell BK101.out 4).trans rfl, (blk_cell BK101.out 5).trans rfl, (blk_cell BK101.out 6).trans rfl, (blk_cell BK101.out 7).trans rfl, (blk_cell BK101.out 8).trans rfl, (blk_cell BK101.out 9).trans rfl⟩ (fun hHeld => ?_)
                                      clear hK K
                                      refine norm_ (a' := ?_) ?_ ?_
                                      rotate_left
                                      · show Act.put _ (some 54) _ = _
                                        simp only [Act.put, List.setIfInBounds_toArray, List.set_cons_zero, List.set_cons_succ, i64_w, i32_w]
                                        rfl
                                      refine two_ (i := 9) (j := 14) (Ni := some 55) (Nj := some 10) #[true, true, true, true, true, true, true, true, true, true, false, false, false, false, false, false, false, false] #[true, true, true, true, true, true, true, true, true, false, false, false, false, false, true, false, false, false] rfl rfl rfl rfl (two_of HT_.out (by kernel_rfl)) (by decide) (by decide) (fun K hK => ?_) (fun K hK => ?_)
                                      · skip
                                        refine goes_ Tryd.func22 (by kernel_rfl) rfl #[.agg #[.int .u16 a0_0, .int .u16 a0_1, .int .u16 a0_2, .int .u16 a0_3, .int .u16 a0_4, .int .u8 a0_5, .int .u8 a0_6, .int .u32 a0_7, .int .u32 a0_8, .bool a0_9], .slice Ao35 t116.length co35] (by rfl) rfl rfl (by (try simp only [List.map_toArray, List.map_cons, List.map_nil]); first | done | rfl | (simp only [List.length_drop, List.length_take]; rfl)) ?_
                                        with_reducible refine (impl_MarkerRead.calls a0_0 a0_1 a0_2 a0_3 a0_4 a0_5 a0_6 a0_7 a0_8 a0_9 _ _ t116 t119 t120 t121 t122 t123 true _ ?side1 ?side2 A29.out).mono ?_
                                        (case side1 => repeat (first | exact (Kd.R_reads' HO118.out).2.2 | (with_reducible refine Kd.C_alloc ?_ _) | (with_reducible refine Kd.C_drewN ?_ _) | (with_reducible refine Kd.C_drew ?_)))
                                        (case side2 => exact (Kd.R_reads' HO118.out).2.1)
                                        rintro e w36 ⟨rfl, hb⟩
                                        refine ⟨_, rfl, ?_⟩
                                        have n0_ := Aside0.mk (Kd.R_below (by (with_reducible repeat (first | apply Kd.R_alloc | apply Kd.R_drewN | apply Kd.R_drew)); exact HO_5.out) hb)
                                        have n1_ := Aside0.mk (Kd.R_below (by (with_reducible repeat (first | apply Kd.R_alloc | apply Kd.R_drewN | apply Kd.R_drew)); exact HO118.out) hb)
                                        have n2_ := Aside0.mk (blk_below (g := gb101) (o := .cells #[.int .u16 a0_0, .int .u16 a0_1, .int .u16 a0_2, .int .u16 a0_3, .int .u16 a0_4, .int .u8 a0_5, .int .u8 a0_6, .int .u32 a0_7, .int .u32 a0_8, .bool a0_9] 34 (0, 0)) (by (with_reducible repeat (first | refine blk_drewN ?_ _ | refine blk_drew ?_ | refine blk_alloc ?_ _)); exact BK101.out) hb)
                                        have n3_ := Aside0.mk (Kd.C_below (by repeat (first | (with_reducible exact HR115.out) | (with_reducible refine Kd.C_alloc ?_ _) | (with_reducible refine Kd.C_drewN ?_ _) | (with_reducible refine Kd.C_drew ?_) | exact HR115.out)) hb)
                                        have n4_ := Aside0.mk (below_step (by repeat (first | (with_reducible first | exact HB.out | apply below_alloc | apply pw_below_drewN | apply below_drew1 | refine below_set ?_ GE101.out) | exact HB.out)) hb)
                                        clear HO_5
                                        clear HO118
                                        clear BK101
                                        clear HR115
                                        clear HB
                                        have HO_5 := n0_
                                        have HO118 := n1_
                                        have BK101 := n2_
                                        have HR115 := n3_
                                        have HB := n4_
                                        clear n0_ n1_ n2_ n3_ n4_
                                        (try clear hb)
                                        (try clear hb2)
                                        (try clear hk)
                                        (try clear hi)
                                        refine hK.out _ _ ⟨(blk_cell BK101.out 0).trans rfl, (blk_cell BK101.out 1).trans rfl, (blk_cell BK101.out 2).trans rfl, (blk_cell BK101.out 3).trans rfl, (blk_cell BK101.out 4).trans rfl, (blk_cell BK101.out 5).trans rfl, (blk_cell BK101.out 6).trans rfl, (blk_cell BK101.out 7).trans rfl, (blk_cell BK101.out 8).trans rfl, (blk_cell BK101.out 9).trans rfl⟩ (fun hHeld => ?_)
                                        clear hK K
                                        refine norm_ (a' := ?_) ?_ ?_
                                        rotate_left
                                        · show Act.put _ (some 55) _ = _
                                          simp only [Act.put, List.setIfInBounds_toArray, List.set_cons_zero, List.set_cons_succ, i64_w, i32_w]
                                          rfl
                                        refine pure_ (i := 10) (N := some 45) (v := ?_) (a' := ?_) #[true, true, true, true, true, true, true, true, true, true, true, false, false, false, false, false, false, false] rfl rfl (any_of HT_.out (by kernel_rfl)) (fun _ _ _ h => h) (Or.inl ⟨by rfl, ?_⟩) ?_ ?_
                                        rotate_left
                                        · intro w'
                                          go_simp
                                          with_reducible rfl
                                        rotate_left
                                        · simp only [Act.put, List.setIfInBounds_toArray, List.set_cons_zero, List.set_cons_succ, i64_w, i32_w]
                                          rfl
                                        refine pure_ (i := 11) (N := some 56) (v := ?_) (a' := ?_) #[true, true, true, true, true, true, true, true, true, true, true, true, false, false, false, false, false, false] rfl rfl (any_of HT_.out (by kernel_rfl)) (fun _ _ _ h => h) (Or.inl ⟨by rfl, ?_⟩) ?_ ?_
                                        rotate_left
                                        · intro w'
                                          go_simp
                                          with_reducible rfl
                                        rotate_left
                                        · simp only [Act.put, List.setIfInBounds_toArray, List.set_cons_zero, List.set_cons_succ, i64_w, i32_w]
                                          rfl
                                        refine pure_ (i := 12) (N := some 57) (v := ?_) (a' := ?_) #[true, true, true, true, true, true, true, true, true, true, true, true, true, false, false, false, false, false] rfl rfl (any_of HT_.out (by kernel_rfl)) (fun _ _ _ h => h) (Or.inl ⟨by rfl, ?_⟩) ?_ ?_
                                        rotate_left
                                        · intro w'
                                          go_simp
                                          with_reducible rfl
                                        rotate_left
                                        · simp only [Act.put, List.setIfInBounds_toArray, List.set_cons_zero, List.set_cons_succ, i64_w, i32_w]
                                          rfl
                                        refine pure_ (i := 13) (N := some 58) (v := ?_) (a' := ?_) #[true, true, true, true, true, true, true, true, true, true, true, true, true, true, false, false, false, false] rfl rfl (any_of HT_.out (by kernel_rfl)) (fun _ _ _ h => h) (Or.inl ⟨by rfl, ?_⟩) ?_ ?_
                                        rotate_left
                                        · intro w'
                                          go_simp
                                          with_reducible rfl
                                        rotate_left
                                        · simp only [Act.put, List.setIfInBounds_toArray, List.set_cons_zero, List.set_cons_succ, i64_w, i32_w]
                                          rfl
                                        refine one_ (i := 14) (N := some 10) #[true, true, true, true, true, true, true, true, true, true, true, true, true, true, true, false, false, false] rfl rfl (one_of HT_.out (by kernel_rfl)) (by decide) (fun K hK => ?_)
                                        refine box_step ?hg (N := 10) ?hd (cs := #[.int .u32 0, .int .u8 0, .int .u8 0, .int .u16 0]) (t := 28) ?hr ?_; (case hd => rfl); (case hg => rfl); (case hr => first | (go_simp; done) | (go_simp; rfl))
                                        intro gb125 hg w37 hbox hb
                                        have n0_ := Aside0.mk (Kd.R_below (by (with_reducible repeat (first | apply Kd.R_alloc | apply Kd.R_drewN | apply Kd.R_drew)); exact HO_5.out) hb)
                                        have n1_ := Aside0.mk (Kd.R_below (by (with_reducible repeat (first | apply Kd.R_alloc | apply Kd.R_drewN | apply Kd.R_drew)); exact HO118.out) hb)
                                        have n2_ := Aside0.mk (blk_below (g := gb101) (o := .cells #[.int .u16 a0_0, .int .u16 a0_1, .int .u16 a0_2, .int .u16 a0_3, .int .u16 a0_4, .int .u8 a0_5, .int .u8 a0_6, .int .u32 a0_7, .int .u32 a0_8, .bool a0_9] 34 (0, 0)) (by (with_reducible repeat (first | refine blk_drewN ?_ _ | refine blk_drew ?_ | refine blk_alloc ?_ _)); exact BK101.out) hb)
                                        have n3_ := Aside0.mk (Kd.C_below (by repeat (first | (with_reducible exact HR115.out) | (with_reducible refine Kd.C_alloc ?_ _) | (with_reducible refine Kd.C_drewN ?_ _) | (with_reducible refine Kd.C_drew ?_) | exact HR115.out)) hb)
                                        have n4_ := Aside0.mk (below_step (by repeat (first | (with_reducible first | exact HB.out | apply below_alloc | apply pw_below_drewN | apply below_drew1 | refine below_set ?_ GE101.out) | exact HB.out)) hb)
                                        have n5_ := Aside0.mk (hbox)
                                        have n6_ := Aside0.mk ((by rw [hg]; exact (below_size (by repeat (first | (with_reducible first | exact HB.out | apply below_alloc | apply pw_below_drewN | apply below_drew1 | refine below_set ?_ GE101.out) | exact HB.out))) : w.heap.size ≤ gb125))
                                        have n7_ := Aside0.mk ((by rw [hg]; exact (below_size (by repeat (first | (with_reducible first | exact HB.out | apply below_alloc | apply pw_below_drewN | apply below_drew1 | refine below_set ?_ GE101.out) | exact HB.out))) : w.heap.size ≤ gb125))
                                        have n8_ := Aside0.mk ((by rw [hg]; exact Nat.ne_of_lt (blk_lt (g := gb101) (o := .cells #[.int .u16 a0_0, .int .u16 a0_1, .int .u16 a0_2, .int .u16 a0_3, .int .u16 a0_4, .int .u8 a0_5, .int .u8 a0_6, .int .u32 a0_7, .int .u32 a0_8, .bool a0_9] 34 (0, 0)) (by (with_reducible repeat (first | refine blk_drewN ?_ _ | refine blk_drew ?_ | refine blk_alloc ?_ _)); exact BK101.out)) : gb101 ≠ gb125))
                                        have n9_ := Aside0.mk ((by rw [hg]; exact Nat.ne_of_gt (blk_lt (g := gb101) (o := .cells #[.int .u16 a0_0, .int .u16 a0_1, .int .u16 a0_2, .int .u16 a0_3, .int .u16 a0_4, .int .u8 a0_5, .int .u8 a0_6, .int .u32 a0_7, .int .u32 a0_8, .bool a0_9] 34 (0, 0)) (by (with_reducible repeat (first | refine blk_drewN ?_ _ | refine blk_drew ?_ | refine blk_alloc ?_ _)); exact BK101.out)) : gb125 ≠ gb101))
                                        clear HO_5
                                        clear HO118
                                        clear BK101
                                        clear HR115
                                        clear HB
                                        have HO_5 := n0_
                                        have HO118 := n1_
                                        have BK101 := n2_
                                        have HR115 := n3_
                                        have HB := n4_
                                        have BK125 := n5_
                                        have GW125 := n6_
                                        have GE125 := n7_
                                        have NB101_125 := n8_
                                        have NB125_101 := n9_
                                        clear n0_ n1_ n2_ n3_ n4_ n5_ n6_ n7_ n8_ n9_
                                        clear hb hbox hg
                                        refine hK.out _ _ ⟨(blk_cell BK101.out 0).trans rfl, (blk_cell BK101.out 1).trans rfl, (blk_cell BK101.out 2).trans rfl, (blk_cell BK101.out 3).trans rfl, (blk_cell BK101.out 4).trans rfl, (blk_cell BK101.out 5).trans rfl, (blk_cell BK101.out 6).trans rfl, (blk_cell BK101.out 7).trans rfl, (blk_cell BK101.out 8).trans rfl, (blk_cell BK101.out 9).trans rfl⟩ (fun hHeld => ?_)
                                        clear hK K
                                        refine norm_ (a' := ?_) ?_ ?_
                                        rotate_left
                                        · show Act.put _ (some 10) _ = _
                                          simp only [Act.put, List.setIfInBounds_toArray, List.set_cons_zero, List.set_cons_succ, i64_w, i32_w]
                                          rfl
                                        exact norm_ (by simp only [putAll, Act.put, List.setIfInBounds_toArray, List.set_cons_zero, List.set_cons_succ]) (hCont (.slice Ao35 t116.length co35, gb125) _ ⟨hHeld, (by (with_reducible repeat (first | apply Kd.R_alloc | apply Kd.R_drewN | apply Kd.R_drew)); exact Kd.R_mono HO118.out (fun _ hk => hk.2)), (by (with_reducible repeat (first | apply Kd.R_alloc | apply Kd.R_drewN | apply Kd.R_drew)); exact Kd.R_mono HO_5.out (fun _ hk => hk.2)), (by (with_reducible repeat (first | refine blk_drewN ?_ _ | refine blk_drew ?_ | refine blk_alloc ?_ _)); exact BK101.out), (by (with_reducible repeat (first | refine blk_drewN ?_ _ | refine blk_drew ?_ | refine blk_alloc ?_ _)); exact BK125.out), GW125.out, GE125.out, NB101_125.out, NB125_101.out, (by repeat (first | (with_reducible first | exact HB.out | apply below_alloc | apply pw_below_drewN | apply below_drew1 | refine below_set ?_ GE101.out | refine below_set ?_ GE125.out) | exact HB.out))⟩)
                                      · skip
                                        refine box_step ?hg (N := 10) ?hd (cs := #[.int .u32 0, .int .u8 0, .int .u8 0, .int .u16 0]) (t := 28) ?hr ?_; (case hd => rfl); (case hg => rfl); (case hr => first | (go_simp; done) | (go_simp; rfl))
                                        intro gb125 hg w35 hbox hb
                                        have n0_ := Aside0.mk (Kd.R_below (by (with_reducible repeat (first | apply Kd.R_alloc | apply Kd.R_drewN | apply Kd.R_drew)); exact HO_5.out) hb)
                                        have n1_ := Aside0.mk (Kd.R_below (by (with_reducible repeat (first | apply Kd.R_alloc | apply Kd.R_drewN | apply Kd.R_drew)); exact HO118.out) hb)
                                        have n2_ := Aside0.mk (blk_below (g := gb101) (o := .cells #[.int .u16 a0_0, .int .u16 a0_1, .int .u16 a0_2, .int .u16 a0_3, .int .u16 a0_4, .int .u8 a0_5, .int .u8 a0_6, .int .u32 a0_7, .int .u32 a0_8, .bool a0_9] 34 (0, 0)) (by (with_reducible repeat (first | refine blk_drewN ?_ _ | refine blk_drew ?_ | refine blk_alloc ?_ _)); exact BK101.out) hb)
                                        have n3_ := Aside0.mk (Kd.C_below (by repeat (first | (with_reducible exact HR115.out) | (with_reducible refine Kd.C_alloc ?_ _) | (with_reducible refine Kd.C_drewN ?_ _) | (with_reducible refine Kd.C_drew ?_) | exact HR115.out)) hb)
                                        have n4_ := Aside0.mk (below_step (by repeat (first | (with_reducible first | exact HB.out | apply below_alloc | apply pw_below_drewN | apply below_drew1 | refine below_set ?_ GE101.out) | exact HB.out)) hb)
                                        have n5_ := Aside0.mk (hbox)
                                        have n6_ := Aside0.mk ((by rw [hg]; exact (below_size (by repeat (first | (with_reducible first | exact HB.out | apply below_alloc | apply pw_below_drewN | apply below_drew1 | refine below_set ?_ GE101.out) | exact HB.out))) : w.heap.size ≤ gb125))
                                        have n7_ := Aside0.mk ((by rw [hg]; exact (below_size (by repeat (first | (with_reducible first | exact HB.out | apply below_alloc | apply pw_below_drewN | apply below_drew1 | refine below_set ?_ GE101.out) | exact HB.out))) : w.heap.size ≤ gb125))
                                        have n8_ := Aside0.mk ((by rw [hg]; exact Nat.ne_of_lt (blk_lt (g := gb101) (o := .cells #[.int .u16 a0_0, .int .u16 a0_1, .int .u16 a0_2, .int .u16 a0_3, .int .u16 a0_4, .int .u8 a0_5, .int .u8 a0_6, .int .u32 a0_7, .int .u32 a0_8, .bool a0_9] 34 (0, 0)) (by (with_reducible repeat (first | refine blk_drewN ?_ _ | refine blk_drew ?_ | refine blk_alloc ?_ _)); exact BK101.out)) : gb101 ≠ gb125))
                                        have n9_ := Aside0.mk ((by rw [hg]; exact Nat.ne_of_gt (blk_lt (g := gb101) (o := .cells #[.int .u16 a0_0, .int .u16 a0_1, .int .u16 a0_2, .int .u16 a0_3, .int .u16 a0_4, .int .u8 a0_5, .int .u8 a0_6, .int .u32 a0_7, .int .u32 a0_8, .bool a0_9] 34 (0, 0)) (by (with_reducible repeat (first | refine blk_drewN ?_ _ | refine blk_drew ?_ | refine blk_alloc ?_ _)); exact BK101.out)) : gb125 ≠ gb101))
                                        clear HO_5
                                        clear HO118
                                        clear BK101
                                        clear HR115
                                        clear HB
                                        have HO_5 := n0_
                                        have HO118 := n1_
                                        have BK101 := n2_
                                        have HR115 := n3_
                                        have HB := n4_
                                        have BK125 := n5_
                                        have GW125 := n6_
                                        have GE125 := n7_
                                        have NB101_125 := n8_
                                        have NB125_101 := n9_
                                        clear n0_ n1_ n2_ n3_ n4_ n5_ n6_ n7_ n8_ n9_
                                        clear hb hbox hg
                                        obtain ⟨Ao36, co36, eo36⟩ := Kd.R_slice HO118.out
                                        (first | subst eo36 | (injection eo36 with f1_ f2_ f3_; have f4_ := f1_.symm; have f5_ := f3_.symm; clear f1_ f2_ f3_; subst f4_; subst f5_))
                                        refine hK.out _ _ ⟨(blk_cell BK101.out 0).trans rfl, (blk_cell BK101.out 1).trans rfl, (blk_cell BK101.out 2).trans rfl, (blk_cell BK101.out 3).trans rfl, (blk_cell BK101.out 4).trans rfl, (blk_cell BK101.out 5).trans rfl, (blk_cell BK101.out 6).trans rfl, (blk_cell BK101.out 7).trans rfl, (blk_cell BK101.out 8).trans rfl, (blk_cell BK101.out 9).trans rfl⟩ (fun hHeld => ?_)
                                        clear hK K
                                        refine norm_ (a' := ?_) ?_ ?_
                                        rotate_left
                                        · show Act.put _ (some 10) _ = _
                                          simp only [Act.put, List.setIfInBounds_toArray, List.set_cons_zero, List.set_cons_succ, i64_w, i32_w]
                                          rfl
                                        refine one_ (i := 9) (N := some 55) #[true, true, true, true, true, true, true, true, true, true, false, false, false, false, true, false, false, false] rfl rfl (one_of HT_.out (by kernel_rfl)) (by decide) (fun K hK => ?_)
                                        refine goes_ Tryd.func22 (by kernel_rfl) rfl #[.agg #[.int .u16 a0_0, .int .u16 a0_1, .int .u16 a0_2, .int .u16 a0_3, .int .u16 a0_4, .int .u8 a0_5, .int .u8 a0_6, .int .u32 a0_7, .int .u32 a0_8, .bool a0_9], .slice Ao36 t116.length co36] (by rfl) rfl rfl (by (try simp only [List.map_toArray, List.map_cons, List.map_nil]); first | done | rfl | (simp only [List.length_drop, List.length_take]; rfl)) ?_
                                        with_reducible refine (impl_MarkerRead.calls a0_0 a0_1 a0_2 a0_3 a0_4 a0_5 a0_6 a0_7 a0_8 a0_9 _ _ t116 t119 t120 t121 t122 t123 true _ ?side1 ?side2 A29.out).mono ?_
                                        (case side1 => repeat (first | exact (Kd.R_reads' HO118.out).2.2 | (with_reducible refine Kd.C_alloc ?_ _) | (with_reducible refine Kd.C_drewN ?_ _) | (with_reducible refine Kd.C_drew ?_)))
                                        (case side2 => exact (Kd.R_reads' HO118.out).2.1)
                                        rintro e w37 ⟨rfl, hb⟩
                                        refine ⟨_, rfl, ?_⟩
                                        have n0_ := Aside0.mk (Kd.R_below (by (with_reducible repeat (first | apply Kd.R_alloc | apply Kd.R_drewN | apply Kd.R_drew)); exact HO_5.out) hb)
                                        have n1_ := Aside0.mk (Kd.R_below (by (with_reducible repeat (first | apply Kd.R_alloc | apply Kd.R_drewN | apply Kd.R_drew)); exact HO118.out) hb)
                                        have n2_ := Aside0.mk (blk_below (g := gb101) (o := .cells #[.int .u16 a0_0, .int .u16 a0_1, .int .u16 a0_2, .int .u16 a0_3, .int .u16 a0_4, .int .u8 a0_5, .int .u8 a0_6, .int .u32 a0_7, .int .u32 a0_8, .bool a0_9] 34 (0, 0)) (by (with_reducible repeat (first | refine blk_drewN ?_ _ | refine blk_drew ?_ | refine blk_alloc ?_ _)); exact BK101.out) hb)
                                        have n3_ := Aside0.mk (Kd.C_below (by repeat (first | (with_reducible exact HR115.out) | (with_reducible refine Kd.C_alloc ?_ _) | (with_reducible refine Kd.C_drewN ?_ _) | (with_reducible refine Kd.C_drew ?_) | exact HR115.out)) hb)
                                        have n4_ := Aside0.mk (blk_below (g := gb125) (o := .cells #[.int .u32 0, .int .u8 0, .int .u8 0, .int .u16 0] 28 (0, 0)) (by (with_reducible repeat (first | refine blk_drewN ?_ _ | refine blk_drew ?_ | refine blk_alloc ?_ _)); exact BK125.out) hb)
                                        have n5_ := Aside0.mk (below_step (by repeat (first | (with_reducible first | exact HB.out | apply below_alloc | apply pw_below_drewN | apply below_drew1 | refine below_set ?_ GE101.out | refine below_set ?_ GE125.out) | exact HB.out)) hb)
                                        clear HO_5
                                        clear HO118
                                        clear BK101
                                        clear HR115
                                        clear BK125
                                        clear HB
                                        have HO_5 := n0_
                                        have HO118 := n1_
                                        have BK101 := n2_
                                        have HR115 := n3_
                                        have BK125 := n4_
                                        have HB := n5_
                                        clear n0_ n1_ n2_ n3_ n4_ n5_
                                        (try clear hb)
                                        (try clear hb2)
                                        (try clear hk)
                                        (try clear hi)
                                        refine hK.out _ _ ⟨(blk_cell BK101.out 0).trans rfl, (blk_cell BK101.out 1).trans rfl, (blk_cell BK101.out 2).trans rfl, (blk_cell BK101.out 3).trans rfl, (blk_cell BK101.out 4).trans rfl, (blk_cell BK101.out 5).trans rfl, (blk_cell BK101.out 6).trans rfl, (blk_cell BK101.out 7).trans rfl, (blk_cell BK101.out 8).trans rfl, (blk_cell BK101.out 9).trans rfl⟩ (fun hHeld => ?_)
                                        clear hK K
                                        refine norm_ (a' := ?_) ?_ ?_
                                        rotate_left
                                        · show Act.put _ (some 55) _ = _
                                          simp only [Act.put, List.setIfInBounds_toArray, List.set_cons_zero, List.set_cons_succ, i64_w, i32_w]
                                          rfl
                                        refine pure_ (i := 10) (N := some 45) (v := ?_) (a' := ?_) #[true, true, true, true, true, true, true, true, true, true, true, false, false, false, true, false, false, false] rfl rfl (any_of HT_.out (by kernel_rfl)) (fun _ _ _ h => h) (Or.inl ⟨by rfl, ?_⟩) ?_ ?_
                                        rotate_left
                                        · intro w'
                                          go_simp
                                          with_reducible rfl
                                        rotate_left
                                        · simp only [Act.put, List.setIfInBounds_toArray, List.set_cons_zero, List.set_cons_succ, i64_w, i32_w]
                                          rfl
                                        refine pure_ (i := 11) (N := some 56) (v := ?_) (a' := ?_) #[true, true, true, true, true, true, true, true, true, true, true, true, false, false, true, false, false, false] rfl rfl (any_of HT_.out (by kernel_rfl)) (fun _ _ _ h => h) (Or.inl ⟨by rfl, ?_⟩) ?_ ?_
                                        rotate_left
                                        · intro w'
                                          go_simp
                                          with_reducible rfl
                                        rotate_left
                                        · simp only [Act.put, List.setIfInBounds_toArray, List.set_cons_zero, List.set_cons_succ, i64_w, i32_w]
                                          rfl
                                        refine pure_ (i := 12) (N := some 57) (v := ?_) (a' := ?_) #[true, true, true, true, true, true, true, true, true, true, true, true, true, false, true, false, false, false] rfl rfl (any_of HT_.out (by kernel_rfl)) (fun _ _ _ h => h) (Or.inl ⟨by rfl, ?_⟩) ?_ ?_
                                        rotate_left
                                        · intro w'
                                          go_simp
                                          with_reducible rfl
                                        rotate_left
                                        · simp only [Act.put, List.setIfInBounds_toArray, List.set_cons_zero, List.set_cons_succ, i64_w, i32_w]
                                          rfl
                                        refine pure_ (i := 13) (N := some 58) (v := ?_) (a' := ?_) #[true, true, true, true, true, true, true, true, true, true, true, true, true, true, true, false, false, false] rfl rfl (any_of HT_.out (by kernel_rfl)) (fun _ _ _ h => h) (Or.inl ⟨by rfl, ?_⟩) ?_ ?_
                                        rotate_left
                                        · intro w'
                                          go_simp
                                          with_reducible rfl
                                        rotate_left
                                        · simp only [Act.put, List.setIfInBounds_toArray, List.set_cons_zero, List.set_cons_succ, i64_w, i32_w]
                                          rfl
                                        exact norm_ (by simp only [putAll, Act.put, List.setIfInBounds_toArray, List.set_cons_zero, List.set_cons_succ]) (hCont (.slice Ao36 t116.length co36, gb125) _ ⟨hHeld, (by (with_reducible repeat (first | apply Kd.R_alloc | apply Kd.R_drewN | apply Kd.R_drew)); exact Kd.R_mono HO118.out (fun _ hk => hk.2)), (by (with_reducible repeat (first | apply Kd.R_alloc | apply Kd.R_drewN | apply Kd.R_drew)); exact Kd.R_mono HO_5.out (fun _ hk => hk.2)), (by (with_reducible repeat (first | refine blk_drewN ?_ _ | refine blk_drew ?_ | refine blk_alloc ?_ _)); exact BK101.out), (by (with_reducible repeat (first | refine blk_drewN ?_ _ | refine blk_drew ?_ | refine blk_alloc ?_ _)); exact BK125.out), GW125.out, GE125.out, NB101_125.out, NB125_101.out, (by repeat (first | (with_reducible first | exact HB.out | apply below_alloc | apply pw_below_drewN | apply below_drew1 | refine below_set ?_ GE101.out | refine below_set ?_ GE125.out) | exact HB.out))⟩)
                                    · skip
                                      refine box_step ?hg (N := 10) ?hd (cs := #[.int .u32 0, .int .u8 0, .int .u8 0, .int .u16 0]) (t := 28) ?hr ?_; (case hd => rfl); (case hg => rfl); (case hr => first | (go_simp; done) | (go_simp; rfl))
                                      intro gb125 hg w34 hbox hb
                                      have n0_ := Aside0.mk (Kd.R_below (by (with_reducible repeat (first | apply Kd.R_alloc | apply Kd.R_drewN | apply Kd.R_drew)); exact HO_5.out) hb)
                                      have n1_ := Aside0.mk (blk_below (g := gb101) (o := .cells #[.int .u16 a0_0, .int .u16 a0_1, .int .u16 a0_2, .int .u16 a0_3, .int .u16 a0_4, .int .u8 a0_5, .int .u8 a0_6, .int .u32 a0_7, .int .u32 a0_8, .bool a0_9] 34 (0, 0)) (by (with_reducible repeat (first | refine blk_drewN ?_ _ | refine blk_drew ?_ | refine blk_alloc ?_ _)); exact BK101.out) hb)
                                      have n2_ := Aside0.mk (Kd.C_below (by repeat (first | (with_reducible exact HR115.out) | (with_reducible refine Kd.C_alloc ?_ _) | (with_reducible refine Kd.C_drewN ?_ _) | (with_reducible refine Kd.C_drew ?_) | exact HR115.out)) hb)
                                      have n3_ := Aside0.mk (below_step (by repeat (first | (with_reducible first | exact HB.out | apply below_alloc | apply pw_below_drewN | apply below_drew1 | refine below_set ?_ GE101.out) | exact HB.out)) hb)
                                      have n4_ := Aside0.mk (hbox)
                                      have n5_ := Aside0.mk ((by rw [hg]; exact (below_size (by repeat (first | (with_reducible first | exact HB.out | apply below_alloc | apply pw_below_drewN | apply below_drew1 | refine below_set ?_ GE101.out) | exact HB.out))) : w.heap.size ≤ gb125))
                                      have n6_ := Aside0.mk ((by rw [hg]; exact (below_size (by repeat (first | (with_reducible first | exact HB.out | apply below_alloc | apply pw_below_drewN | apply below_drew1 | refine below_set ?_ GE101.out) | exact HB.out))) : w.heap.size ≤ gb125))
                                      have n7_ := Aside0.mk ((by rw [hg]; exact Nat.ne_of_lt (blk_lt (g := gb101) (o := .cells #[.int .u16 a0_0, .int .u16 a0_1, .int .u16 a0_2, .int .u16 a0_3, .int .u16 a0_4, .int .u8 a0_5, .int .u8 a0_6, .int .u32 a0_7, .int .u32 a0_8, .bool a0_9] 34 (0, 0)) (by (with_reducible repeat (first | refine blk_drewN ?_ _ | refine blk_drew ?_ | refine blk_alloc ?_ _)); exact BK101.out)) : gb101 ≠ gb125))
                                      have n8_ := Aside0.mk ((by rw [hg]; exact Nat.ne_of_gt (blk_lt (g := gb101) (o := .cells #[.int .u16 a0_0, .int .u16 a0_1, .int .u16 a0_2, .int .u16 a0_3, .int .u16 a0_4, .int .u8 a0_5, .int .u8 a0_6, .int .u32 a0_7, .int .u32 a0_8, .bool a0_9] 34 (0, 0)) (by (with_reducible repeat (first | refine blk_drewN ?_ _ | refine blk_drew ?_ | refine blk_alloc ?_ _)); exact BK101.out)) : gb125 ≠ gb101))
                                      clear HO_5
                                      clear BK101
                                      clear HR115
                                      clear HB
                                      have HO_5 := n0_
                                      have BK101 := n1_
                                      have HR115 := n2_
                                      have HB := n3_
                                      have BK125 := n4_
                                      have GW125 := n5_
                                      have GE125 := n6_
                                      have NB101_125 := n7_
                                      have NB125_101 := n8_
                                      clear n0_ n1_ n2_ n3_ n4_ n5_ n6_ n7_ n8_
                                      clear hb hbox hg
                                      refine hK.out _ _ ⟨(blk_cell BK101.out 0).trans rfl, (blk_cell BK101.out 1).trans rfl, (blk_cell BK101.out 2).trans rfl, (blk_cell BK101.out 3).trans rfl, (blk_cell BK101.out 4).trans rfl, (blk_cell BK101.out 5).trans rfl, (blk_cell BK101.out 6).trans rfl, (blk_cell BK101.out 7).trans rfl, (blk_cell BK101.out 8).trans rfl, (blk_cell BK101.out 9).trans rfl⟩ (fun hHeld => ?_)
                                      clear hK K
                                      refine norm_ (a' := ?_) ?_ ?_
                                      rotate_left
                                      · show Act.put _ (some 10) _ = _
                                        simp only [Act.put, List.setIfInBounds_toArray, List.set_cons_zero, List.set_cons_succ, i64_w, i32_w]
                                        rfl
                                      refine one_ (i := 8) (N := some 54) #[true, true, true, true, true, true, true, true, true, false, false, false, false, false, true, false, false, false] rfl rfl (one_of HT_.out (by kernel_rfl)) (by decide) (fun K hK => ?_)
                                      refine goes_ Tryd.func12 (by kernel_rfl) rfl #[.slice A33 y112.length c33] (by rfl) rfl rfl (by (try simp only [List.map_toArray, List.map_cons, List.map_nil]); first | done | rfl | (simp only [List.length_drop, List.length_take]; rfl)) ?_
                                      with_reducible refine (bytes_Clone.calls _ _ y112 t116 _ ?side1 ?side2 A28.out).mono ?_
                                      (case side1 => repeat (first | exact (by repeat (first | (with_reducible exact HR115.out) | (with_reducible refine Kd.C_alloc ?_ _) | (with_reducible refine Kd.C_drewN ?_ _) | (with_reducible refine Kd.C_drew ?_) | exact HR115.out)) | (with_reducible refine Kd.C_alloc ?_ _) | (with_reducible refine Kd.C_drewN ?_ _) | (with_reducible refine Kd.C_drew ?_)))
                                      (case side2 => exact HC115.out)
                                      rintro e w35 ⟨v117, rfl, ho0, hb⟩
                                      refine ⟨_, rfl, ?_⟩
                                      have n0_ := Aside0.mk (Kd.R_elder' (by (with_reducible repeat (first | apply Kd.R_alloc | apply Kd.R_drewN | apply Kd.R_drew)); exact HO_5.out) (Kd.R_base ho0) hb)
                                      have n1_ := Aside0.mk (Kd.R_lower (Kd.R_new' ho0 (Kd.R_lt (by (with_reducible repeat (first | apply Kd.R_alloc | apply Kd.R_drewN | apply Kd.R_drew)); exact HO_5.out))) (below_size (by repeat (first | (with_reducible first | exact HB.out | apply below_alloc | apply pw_below_drewN | apply below_drew1 | refine below_set ?_ GE101.out | refine below_set ?_ GE125.out) | exact HB.out))))
                                      have n2_ := Aside0.mk (blk_below (g := gb101) (o := .cells #[.int .u16 a0_0, .int .u16 a0_1, .int .u16 a0_2, .int .u16 a0_3, .int .u16 a0_4, .int .u8 a0_5, .int .u8 a0_6, .int .u32 a0_7, .int .u32 a0_8, .bool a0_9] 34 (0, 0)) (by (with_reducible repeat (first | refine blk_drewN ?_ _ | refine blk_drew ?_ | refine blk_alloc ?_ _)); exact BK101.out) hb)
                                      have n3_ := Aside0.mk (Kd.C_below (by repeat (first | (with_reducible exact HR115.out) | (with_reducible refine Kd.C_alloc ?_ _) | (with_reducible refine Kd.C_drewN ?_ _) | (with_reducible refine Kd.C_drew ?_) | exact HR115.out)) hb)
                                      have n4_ := Aside0.mk (blk_below (g := gb125) (o := .cells #[.int .u32 0, .int .u8 0, .int .u8 0, .int .u16 0] 28 (0, 0)) (by (with_reducible repeat (first | refine blk_drewN ?_ _ | refine blk_drew ?_ | refine blk_alloc ?_ _)); exact BK125.out) hb)
                                      have n5_ := Aside0.mk (below_step (by repeat (first | (with_reducible first | exact HB.out | apply below_alloc | apply pw_below_drewN | apply below_drew1 | refine below_set ?_ GE101.out | refine below_set ?_ GE125.out) | exact HB.out)) hb)
                                      clear HO_5
                                      clear BK101
                                      clear HR115
                                      clear BK125
                                      clear HB
                                      have HO_5 := n0_
                                      have HO118 := n1_
                                      have BK101 := n2_
                                      have HR115 := n3_
                                      have BK125 := n4_
                                      have HB := n5_
                                      clear n0_ n1_ n2_ n3_ n4_ n5_
                                      (try clear hb)
                                      (try clear hb2)
                                      (try clear hk)
                                      (try clear hi)
                                      (try clear ho0)
                                      obtain ⟨Ao36, co36, eo36⟩ := Kd.R_slice HO118.out
                                      (first | subst eo36 | (injection eo36 with f1_ f2_ f3_; have f4_ := f1_.symm; have f5_ := f3_.symm; clear f1_ f2_ f3_; subst f4_; subst f5_))
                                      refine hK.out _ _ ⟨(blk_cell BK101.out 0).trans rfl, (blk_cell BK101.out 1).trans rfl, (blk_cell BK101.out 2).trans rfl, (blk_cell BK101.out 3).trans rfl, (blk_cell BK101.out 4).trans rfl, (blk_cell BK101.out 5).trans rfl, (blk_cell BK101.out 6).trans rfl, (blk_cell BK101.out 7).trans rfl, (blk_cell BK101.out 8).trans rfl, (blk_cell BK101.out 9).trans rfl⟩ (fun hHeld => ?_)
                                      clear hK K
                                      refine norm_ (a' := ?_) ?_ ?_
                                      rotate_left
                                      · show Act.put _ (some 54) _ = _
                                        simp only [Act.put, List.setIfInBounds_toArray, List.set_cons_zero, List.set_cons_succ, i64_w, i32_w]
                                        rfl
                                      refine one_ (i := 9) (N := some 55) #[true, true, true, true, true, true, true, true, true, true, false, false, false, false, true, false, false, false] rfl rfl (one_of HT_.out (by kernel_rfl)) (by decide) (fun K hK => ?_)
                                      refine goes_ Tryd.func22 (by kernel_rfl) rfl #[.agg #[.int .u16 a0_0, .int .u16 a0_1, .int .u16 a0_2, .int .u16 a0_3, .int .u16 a0_4, .int .u8 a0_5, .int .u8 a0_6, .int .u32 a0_7, .int .u32 a0_8, .bool a0_9], .slice Ao36 t116.length co36] (by rfl) rfl rfl (by (try simp only [List.map_toArray, List.map_cons, List.map_nil]); first | done | rfl | (simp only [List.length_drop, List.length_take]; rfl)) ?_
                                      with_reducible refine (impl_MarkerRead.calls a0_0 a0_1 a0_2 a0_3 a0_4 a0_5 a0_6 a0_7 a0_8 a0_9 _ _ t116 t119 t120 t121 t122 t123 true _ ?side1 ?side2 A29.out).mono ?_
                                      (case side1 => repeat (first | exact (Kd.R_reads' HO118.out).2.2 | (with_reducible refine Kd.C_alloc ?_ _) | (with_reducible refine Kd.C_drewN ?_ _) | (with_reducible refine Kd.C_drew ?_)))
                                      (case side2 => exact (Kd.R_reads' HO118.out).2.1)
                                      rintro e w37 ⟨rfl, hb⟩
                                      refine ⟨_, rfl, ?_⟩
                                      have n0_ := Aside0.mk (Kd.R_below (by (with_reducible repeat (first | apply Kd.R_alloc | apply Kd.R_drewN | apply Kd.R_drew)); exact HO_5.out) hb)
                                      have n1_ := Aside0.mk (Kd.R_below (by (with_reducible repeat (first | apply Kd.R_alloc | apply Kd.R_drewN | apply Kd.R_drew)); exact HO118.out) hb)
                                      have n2_ := Aside0.mk (blk_below (g := gb101) (o := .cells #[.int .u16 a0_0, .int .u16 a0_1, .int .u16 a0_2, .int .u16 a0_3, .int .u16 a0_4, .int .u8 a0_5, .int .u8 a0_6, .int .u32 a0_7, .int .u32 a0_8, .bool a0_9] 34 (0, 0)) (by (with_reducible repeat (first | refine blk_drewN ?_ _ | refine blk_drew ?_ | refine blk_alloc ?_ _)); exact BK101.out) hb)
                                      have n3_ := Aside0.mk (Kd.C_below (by repeat (first | (with_reducible exact HR115.out) | (with_reducible refine Kd.C_alloc ?_ _) | (with_reducible refine Kd.C_drewN ?_ _) | (with_reducible refine Kd.C_drew ?_) | exact HR115.out)) hb)
                                      have n4_ := Aside0.mk (blk_below (g := gb125) (o := .cells #[.int .u32 0, .int .u8 0, .int .u8 0, .int .u16 0] 28 (0, 0)) (by (with_reducible repeat (first | refine blk_drewN ?_ _ | refine blk_drew ?_ | refine blk_alloc ?_ _)); exact BK125.out) hb)
                                      have n5_ := Aside0.mk (below_step (by repeat (first | (with_reducible first | exact HB.out | apply below_alloc | apply pw_below_drewN | apply below_drew1 | refine below_set ?_ GE101.out | refine below_set ?_ GE125.out) | exact HB.out)) hb)
                                      clear HO_5
                                      clear HO118
                                      clear BK101
                                      clear HR115
                                      clear BK125
                                      clear HB
                                      have HO_5 := n0_
                                      have HO118 := n1_
                                      have BK101 := n2_
                                      have HR115 := n3_
                                      have BK125 := n4_
                                      have HB := n5_
                                      clear n0_ n1_ n2_ n3_ n4_ n5_
                                      (try clear hb)
                                      (try clear hb2)
                                      (try clear hk)
                                      (try clear hi)
                                      refine hK.out _ _ ⟨(blk_cell BK101.out 0).trans rfl, (blk_cell BK101.out 1).trans rfl, (blk_cell BK101.out 2).trans rfl, (blk_cell BK101.out 3).trans rfl, (blk_cell BK101.out 4).trans rfl, (blk_cell BK101.out 5).trans rfl, (blk_cell BK101.out 6).trans rfl, (blk_cell BK101.out 7).trans rfl, (blk_cell BK101.out 8).trans rfl, (blk_cell BK101.out 9).trans rfl⟩ (fun hHeld => ?_)
                                      clear hK K
                                      refine norm_ (a' := ?_) ?_ ?_
                                      rotate_left
                                      · show Act.put _ (some 55) _ = _
                                        simp only [Act.put, List.setIfInBounds_toArray, List.set_cons_zero, List.set_cons_succ, i64_w, i32_w]
                                        rfl
                                      refine pure_ (i := 10) (N := some 45) (v := ?_) (a' := ?_) #[true, true, true, true, true, true, true, true, true, true, true, false, false, false, true, false, false, false] rfl rfl (any_of HT_.out (by kernel_rfl)) (fun _ _ _ h => h) (Or.inl ⟨by rfl, ?_⟩) ?_ ?_
                                      rotate_left
                                      · intro w'
                                        go_simp
                                        with_reducible rfl
                                      rotate_left
                                      · simp only [Act.put, List.setIfInBounds_toArray, List.set_cons_zero, List.set_cons_succ, i64_w, i32_w]
                                        rfl
                                      refine pure_ (i := 11) (N := some 56) (v := ?_) (a' := ?_) #[true, true, true, true, true, true, true, true, true, true, true, true, false, false, true, false, false, false] rfl rfl (any_of HT_.out (by kernel_rfl)) (fun _ _ _ h => h) (Or.inl ⟨by rfl, ?_⟩) ?_ ?_
                                      rotate_left
                                      · intro w'
                                        go_simp
                                        with_reducible rfl
                                      rotate_left
                                      · simp only [Act.put, List.setIfInBounds_toArray, List.set_cons_zero, List.set_cons_succ, i64_w, i32_w]
                                        rfl
                                      refine pure_ (i := 12) (N := some 57) (v := ?_) (a' := ?_) #[true, true, true, true, true, true, true, true, true, true, true, true, true, false, true, false, false, false] rfl rfl (any_of HT_.out (by kernel_rfl)) (fun _ _ _ h => h) (Or.inl ⟨by rfl, ?_⟩) ?_ ?_
                                      rotate_left
                                      · intro w'
                                        go_simp
                                        with_reducible rfl
                                      rotate_left
                                      · simp only [Act.put, List.setIfInBounds_toArray, List.set_cons_zero, List.set_cons_succ, i64_w, i32_w]
                                        rfl
                                      refine pure_ (i := 13) (N := some 58) (v := ?_) (a' := ?_) #[true, true, true, true, true, true, true, true, true, true, true, true, true, true, true, false, false, false] rfl rfl (any_of HT_.out (by kernel_rfl)) (fun _ _ _ h => h) (Or.inl ⟨by rfl, ?_⟩) ?_ ?_
                                      rotate_left
                                      · intro w'
                                        go_simp
                                        with_reducible rfl
                                      rotate_left
                                      · simp only [Act.put, List.setIfInBounds_toArray, List.set_cons_zero, List.set_cons_succ, i64_w, i32_w]
                                        rfl
                                      exact norm_ (by simp only [putAll, Act.put, List.setIfInBounds_toArray, List.set_cons_zero, List.set_cons_succ]) (hCont (.slice Ao36 t116.length co36, gb125) _ ⟨hHeld, (by (with_reducible repeat (first | apply Kd.R_alloc | apply Kd.R_drewN | apply Kd.R_drew)); exact Kd.R_mono HO118.out (fun _ hk => hk.2)), (by (with_reducible repeat (first | apply Kd.R_alloc | apply Kd.R_drewN | apply Kd.R_drew)); exact Kd.R_mono HO_5.out (fun _ hk => hk.2)), (by (with_reducible repeat (first | refine blk_drewN ?_ _ | refine blk_drew ?_ | refine blk_alloc ?_ _)); exact BK101.out), (by (with_reducible repeat (first | refine blk_drewN ?_ _ | refine blk_drew ?_ | refine blk_alloc ?_ _)); exact BK125.out), GW125.out, GE125.out, NB101_125.out, NB125_101.out, (by repeat (first | (with_reducible first | exact HB.out | apply below_alloc | apply pw_below_drewN | apply below_drew1 | refine below_set ?_ GE101.out | refine below_set ?_ GE125.out) | exact HB.out))⟩)
                                  rintro ⟨v117, gb125⟩ w38 ⟨hS_, h0_, h1_, h2_, h3_, h4_, h5_, h6_, h7_, h8_⟩
                                  have n0_ : Aside0 (Kd.R (Kd.int .u8) 5 w38 w.heap.size (fun k_ => some k_ ≠ (.slice Ao20 x5_1.length co20 : Value).ownBlock) v117 t116) := ⟨h0_⟩
                                  have n1_ : Aside0 (Kd.R (Kd.int .u8) 5 w38 w.heap.size (fun k_ => some k_ ≠ (v117 : Value).ownBlock) (.slice Ao20 x5_1.length co20) x5_1) := ⟨h1_⟩
                                  have n2_ : Aside0 (w38.heap[gb101]? = some (.cells #[.int .u16 a0_0, .int .u16 a0_1, .int .u16 a0_2, .int .u16 a0_3, .int .u16 a0_4, .int .u8 a0_5, .int .u8 a0_6, .int .u32 a0_7, .int .u32 a0_8, .bool a0_9] 34 (0, 0))) := ⟨h2_⟩
                                  have n3_ : Aside0 (w38.heap[gb125]? = some (.cells #[.int .u32 0, .int .u8 0, .int .u8 0, .int .u16 0] 28 (0, 0))) := ⟨h3_⟩
                                  have n4_ : Aside0 (w.heap.size ≤ gb125) := ⟨h4_⟩
                                  have n5_ : Aside0 (w.heap.size ≤ gb125) := ⟨h5_⟩
                                  have n6_ : Aside0 (gb101 ≠ gb125) := ⟨h6_⟩
                                  have n7_ : Aside0 (gb125 ≠ gb101) := ⟨h7_⟩
                                  have n8_ : Aside0 (Below w.heap.size w w38) := ⟨h8_⟩
                                  clear HO_5
                                  clear BK101
                                  clear HB
                                  clear h0_ h1_ h2_ h3_ h4_ h5_ h6_ h7_ h8_
                                  have HO118 := n0_
                                  have HO_5 := n1_
                                  have BK101 := n2_
                                  have BK125 := n3_
                                  have GW125 := n4_
                                  have GE125 := n5_
                                  have NB101_125 := n6_
                                  have NB125_101 := n7_
                                  have HB := n8_
                                  clear n0_ n1_ n2_ n3_ n4_ n5_ n6_ n7_ n8_
                                  have hHeld : w38.cell? ⟨gb101, 0, none⟩ = some (.int .u16 a0_0) ∧ w38.cell? ⟨gb101, 1, none⟩ = some (.int .u16 a0_1) ∧ w38.cell? ⟨gb101, 2, none⟩ = some (.int .u16 a0_2) ∧ w38.cell? ⟨gb101, 3, none⟩ = some (.int .u16 a0_3) ∧ w38.cell? ⟨gb101, 4, none⟩ = some (.int .u16 a0_4) ∧ w38.cell? ⟨gb101, 5, none⟩ = some (.int .u8 a0_5) ∧ w38.cell? ⟨gb101, 6, none⟩ = some (.int .u8 a0_6) ∧ w38.cell? ⟨gb101, 7, none⟩ = some (.int .u32 a0_7) ∧ w38.cell? ⟨gb101, 8, none⟩ = some (.int .u32 a0_8) ∧ w38.cell? ⟨gb101, 9, none⟩ = some (.bool a0_9) := hS_
                                  refine norm_ (a' := ?_) ?_ ?_
                                  rotate_left
                                  · simp only [putAll, Act.put, List.setIfInBounds_toArray, List.set_cons_zero, List.set_cons_succ]
                                    rfl
                                  refine one_ (i := 15) (N := none) #[true, true, true, true, true, true, true, true, true, true, true, true, true, true, true, true, false, false] rfl rfl (one_of HT_.out (by kernel_rfl)) (by decide) (fun K hK => ?_)
                                  have hs39 : w38.cell? ⟨gb125, 0, none⟩ = some (.int .u32 0) := (blk_cell BK125.out 0).trans rfl
                                  have hfs39 := blk_frozen BK125.out 0
                                  have hns39_0 := NB101_125.out
                                  have hms39_0 := NB125_101.out
                                  have hs40 : w38.cell? ⟨gb125, 1, none⟩ = some (.int .u8 0) := (blk_cell BK125.out 1).trans rfl
                                  have hfs40 := blk_frozen BK125.out 1
                                  have hns40_0 := NB101_125.out
                                  have hms40_0 := NB125_101.out
                                  have hs41 : w38.cell? ⟨gb125, 2, none⟩ = some (.int .u8 0) := (blk_cell BK125.out 2).trans rfl
                                  have hfs41 := blk_frozen BK125.out 2
                                  have hns41_0 := NB101_125.out
                                  have hms41_0 := NB125_101.out
                                  have hs42 : w38.cell? ⟨gb125, 3, none⟩ = some (.int .u16 0) := (blk_cell BK125.out 3).trans rfl
                                  have hfs42 := blk_frozen BK125.out 3
                                  have hns42_0 := NB101_125.out
                                  have hms42_0 := NB125_101.out
                                  refine skip_ (w1 := ?_) (by rfl) rfl ?_ ?_
                                  rotate_left
                                  · go_simp
                                    rfl
                                  refine hK.out _ _ ⟨((cell_far (p := ⟨gb125, _, none⟩) NB101_125.out _).trans (((cell_far (p := ⟨gb125, _, none⟩) NB101_125.out _).trans (((cell_far (p := ⟨gb125, _, none⟩) NB101_125.out _).trans (((cell_far (p := ⟨gb125, _, none⟩) NB101_125.out _).trans (hHeld.1)))))))), ((cell_far (p := ⟨gb125, _, none⟩) NB101_125.out _).trans (((cell_far (p := ⟨gb125, _, none⟩) NB101_125.out _).trans (((cell_far (p := ⟨gb125, _, none⟩) NB101_125.out _).trans (((cell_far (p := ⟨gb125, _, none⟩) NB101_125.out _).trans (hHeld.2.1)))))))), ((cell_far (p := ⟨gb125, _, none⟩) NB101_125.out _).trans (((cell_far (p := ⟨gb125, _, none⟩) NB101_125.out _).trans (((cell_far (p := ⟨gb125, _, none⟩) NB101_125.out _).trans (((cell_far (p := ⟨gb125, _, none⟩) NB101_125.out _).trans (hHeld.2.2.1)))))))), ((cell_far (p := ⟨gb125, _, none⟩) NB101_125.out _).trans (((cell_far (p := ⟨gb125, _, none⟩) NB101_125.out _).trans (((cell_far (p := ⟨gb125, _, none⟩) NB101_125.out _).trans (((cell_far (p := ⟨gb125, _, none⟩) NB101_125.out _).trans (hHeld.2.2.2.1)))))))), ((cell_far (p := ⟨gb125, _, none⟩) NB101_125.out _).trans (((cell_far (p := ⟨gb125, _, none⟩) NB101_125.out _).trans (((cell_far (p := ⟨gb125, _, none⟩) NB101_125.out _).trans (((cell_far (p := ⟨gb125, _, none⟩) NB101_125.out _).trans (hHeld.2.2.2.2.1)))))))), ((cell_far (p := ⟨gb125, _, none⟩) NB101_125.out _).trans (((cell_far (p := ⟨gb125, _, none⟩) NB101_125.out _).trans (((cell_far (p := ⟨gb125, _, none⟩) NB101_125.out _).trans (((cell_far (p := ⟨gb125, _, none⟩) NB101_125.out _).trans (hHeld.2.2.2.2.2.1)))))))), ((cell_far (p := ⟨gb125, _, none⟩) NB101_125.out _).trans (((cell_far (p := ⟨gb125, _, none⟩) NB101_125.out _).trans (((cell_far (p := ⟨gb125, _, none⟩) NB101_125.out _).trans (((cell_far (p := ⟨gb125, _, none⟩) NB101_125.out _).trans (hHeld.2.2.2.2.2.2.1)))))))), ((cell_far (p := ⟨gb125, _, none⟩) NB101_125.out _).trans (((cell_far (p := ⟨gb125, _, none⟩) NB101_125.out _).trans (((cell_far (p := ⟨gb125, _, none⟩) NB101_125.out _).trans (((cell_far (p := ⟨gb125, _, none⟩) NB101_125.out _).trans (hHeld.2.2.2.2.2.2.2.1)))))))), ((cell_far (p := ⟨gb125, _, none⟩) NB101_125.out _).trans (((cell_far (p := ⟨gb125, _, none⟩) NB101_125.out _).trans (((cell_far (p := ⟨gb125, _, none⟩) NB101_125.out _).trans (((cell_far (p := ⟨gb125, _, none⟩) NB101_125.out _).trans (hHeld.2.2.2.2.2.2.2.2.1)))))))), ((cell_far (p := ⟨gb125, _, none⟩) NB101_125.out _).trans (((cell_far (p := ⟨gb125, _, none⟩) NB101_125.out _).trans (((cell_far (p := ⟨gb125, _, none⟩) NB101_125.out _).trans (((cell_far (p := ⟨gb125, _, none⟩) NB101_125.out _).trans (hHeld.2.2.2.2.2.2.2.2.2))))))))⟩ (fun hHeld => ?_)
                                  clear hK K
                                  refine pure_ (i := 16) (N := some 11) (v := ?_) (a' := ?_) #[true, true, true, true, true, true, true, true, true, true, true, true, true, true, true, true, true, false] rfl rfl (any_of HT_.out (by kernel_rfl)) (fun _ _ _ h => h) (Or.inl ⟨by rfl, ?_⟩) ?_ ?_
                                  rotate_left
                                  · intro w'
                                    go_simp
                                    with_reducible rfl
                                  rotate_left
                                  · simp only [Act.put, List.setIfInBounds_toArray, List.set_cons_zero, List.set_cons_succ, i64_w, i32_w]
                                    rfl
                                  refine pure_ (i := 17) (N := some 12) (v := ?_) (a' := ?_) #[true, true, true, true, true, true, true, true, true, true, true, true, true, true, true, true, true, true] rfl rfl (any_of HT_.out (by kernel_rfl)) (fun _ _ _ h => h) (Or.inl ⟨by rfl, ?_⟩) ?_ ?_
                                  rotate_left
                                  · intro w'
                                    go_simp
                                    with_reducible rfl
                                  rotate_left
                                  · simp only [Act.put, List.setIfInBounds_toArray, List.set_cons_zero, List.set_cons_succ, i64_w, i32_w]
                                    rfl
                                  refine done_ (done_of HT_.out (by kernel_rfl)) ?_
                                  try go_wp2
                                  go_roundg k2
                                  case measure => have := HK1.out; have := HK2.out; omega
                                  case rel => exact ⟨(wrap64 (x40_2 + 1)), (by first | rfl | (simp; done) | (simp [*]; done)), H', ⟨by have := HK1.out; have := HK2.out; omega⟩, ⟨by (with_reducible repeat (first | apply Kd.R_alloc | apply Kd.R_drewN | apply Kd.R_drew)); exact Kd.R_mono (Kd.R_far (p := ⟨gb125, 3, none⟩) (Kd.R_far (p := ⟨gb125, 2, none⟩) (Kd.R_far (p := ⟨gb125, 1, none⟩) (Kd.R_far (p := ⟨gb125, 0, none⟩) (Kd.R_types HO_5.out BK125.out (by decide)) (fun _ hk => hk.2) (.int .u32 t119)) (fun _ hk => hk.2) (.int .u8 t120)) (fun _ hk => hk.2) (.int .u8 t121)) (fun _ hk => hk.2) (.int .u16 t122)) (fun _ hk => trivial)⟩, ⟨by (with_reducible repeat (first | refine blk_drewN ?_ _ | refine blk_drew ?_ | refine blk_alloc ?_ _)); refine blk_far ?_ NB101_125.out _; (with_reducible repeat (first | refine blk_drewN ?_ _ | refine blk_drew ?_ | refine blk_alloc ?_ _)); refine blk_far ?_ NB101_125.out _; (with_reducible repeat (first | refine blk_drewN ?_ _ | refine blk_drew ?_ | refine blk_alloc ?_ _)); refine blk_far ?_ NB101_125.out _; (with_reducible repeat (first | refine blk_drewN ?_ _ | refine blk_drew ?_ | refine blk_alloc ?_ _)); refine blk_far ?_ NB101_125.out _; (with_reducible repeat (first | refine blk_drewN ?_ _ | refine blk_drew ?_ | refine blk_alloc ?_ _)); exact BK101.out⟩, ⟨by repeat (first | (with_reducible first | exact HB.out | apply below_alloc | apply pw_below_drewN | apply below_drew1 | refine below_set ?_ GE101.out | refine below_set ?_ GE125.out) | exact HB.out)⟩⟩
                                · rw [if_neg c31] at H
                                  have c31b0 : (t123 == (rd l1 x40_2)) = false := beq_eq_false_iff_ne.mpr c31
                                  have c31b1 : (t123 != (rd l1 x40_2)) = true := bne_iff_ne.mpr c31
                                  obtain rfl := Option.some.inj H
                                  have p111 : 0 ≤ (x40_2 : Int) := of_decide_eq_true (by first | (with_reducible assumption) | assumption)
                                  have q111 : x40_2 < (l1.length : Int) := of_decide_eq_true (by first | (with_reducible assumption) | assumption)
                                  obtain ⟨ad111, e111, hx111_0⟩ := Kd.at_int HR1.out x40_2 p111 q111
                                  cases e111
                                  replace hx111_0 := (HB.out.cell (World.block_lt_of_cell? w _ hx111_0)).trans hx111_0
                                  replace p111 := eq_true p111
                                  replace q111 := eq_true q111
                                  try go_wp2
                                  have n0_ := Aside0.mk (Kd.R_drew HO_5.out)
                                  have n1_ := Aside0.mk (blk_drew BK101.out)
                                  have n2_ := Aside0.mk (below_drew1 HB.out)
                                  clear HO_5
                                  clear BK101
                                  clear HB
                                  have HO_5 := n0_
                                  have BK101 := n1_
                                  have HB := n2_
                                  clear n0_ n1_ n2_
                                  have q44 : ((wrap64 ((ji24) + 11)) : Int) ≤ ((x5_1.length : Int) : Int) := of_decide_eq_true (by first | (with_reducible assumption) | assumption)
                                  obtain ⟨i044, hi044, _, hsz44, _⟩ := info_parts info5
                                  have hroom44 : x5_1.length ≤ co20 := (Kd.R_reads' HO_5.out).2.1
                                  have hC44 : Kd.C (Kd.int .u8) _ Ao20 x5_1.length x5_1 := (Kd.R_reads' HO_5.out).2.2
                                  have ql44 : ((ji24) : Int) ≤ ((wrap64 ((ji24) + 11)) : Int) := of_decide_eq_true (by first | (with_reducible assumption) | assumption)
                                  have q044 : (0 : Int) ≤ ((ji24) : Int) := of_decide_eq_true (by first | (with_reducible assumption) | assumption)
                                  have hcut44 := cut_mid (P := Tryd.prog) 24 5 .i64 .i64 Tryd.underlying24 hi044 1 hsz44 Ao20 x5_1.length co20 (ji24) (wrap64 ((ji24) + 11)) q044 ql44 q44 hroom44
                                  have hr44 := Kd.C_mid (lo := ((ji24) : Int).toNat) (hi := ((wrap64 ((ji24) + 11)) : Int).toNat) (c := co20) hC44 (by omega) (by omega) hroom44
                                  obtain ⟨A44, hA44⟩ : ∃ A1, A1 = (if co20 = ((ji24) : Int).toNat then Ao20 else (Ao20 : Option Addr).map (·.add (((ji24) : Int).toNat * 1))) := ⟨_, rfl⟩
                                  obtain ⟨c44, hc44⟩ : ∃ c1, c1 = co20 - ((ji24) : Int).toNat := ⟨_, rfl⟩
                                  have hy44 : y112.length = ((wrap64 ((ji24) + 11)) : Int).toNat - ((ji24) : Int).toNat := (by rw [Ny112.out, List.length_drop, List.length_take] <;> omega)
                                  rw [show ((x5_1).take ((wrap64 ((ji24) + 11)) : Int).toNat).drop ((ji24) : Int).toNat = y112 from Ny112.out.symm] at hr44
                                  replace hr44 : Kd.C (Kd.int .u8) _ A44 y112.length y112 := (by rw [hA44]; exact hr44)
                                  rw [← hy44, ← hA44, ← hc44] at hcut44
                                  have HR115 := Aside0.mk hr44
                                  have HC115 := Aside0.mk (show y112.length ≤ c44 from by rw [hy44, hc44]; exact Nat.sub_le_sub_right (Nat.le_trans (by omega) hroom44) _)
                                  clear hr44 hC44 hroom44 hi044 hsz44 hc44
                                  have KY44 := Aside0.mk hy44
                                  have KA44 := Aside0.mk hA44
                                  clear hy44 hA44
                                  have KL44 := Aside0.mk (show ((wrap64 ((ji24) + 11)) : Int).toNat ≤ x5_1.length from by omega)
                                  have KM44 := Aside0.mk (show ((ji24) : Int).toNat ≤ ((wrap64 ((ji24) + 11)) : Int).toNat from by omega)
                                  replace q44 := eq_true q44
                                  refine start_ (n := 18) (S := fun w' => w'.cell? ⟨gb101, 0, none⟩ = some (.int .u16 a0_0) ∧ w'.cell? ⟨gb101, 1, none⟩ = some (.int .u16 a0_1) ∧ w'.cell? ⟨gb101, 2, none⟩ = some (.int .u16 a0_2) ∧ w'.cell? ⟨gb101, 3, none⟩ = some (.int .u16 a0_3) ∧ w'.cell? ⟨gb101, 4, none⟩ = some (.int .u16 a0_4) ∧ w'.cell? ⟨gb101, 5, none⟩ = some (.int .u8 a0_5) ∧ w'.cell? ⟨gb101, 6, none⟩ = some (.int .u8 a0_6) ∧ w'.cell? ⟨gb101, 7, none⟩ = some (.int .u32 a0_7) ∧ w'.cell? ⟨gb101, 8, none⟩ = some (.int .u32 a0_8) ∧ w'.cell? ⟨gb101, 9, none⟩ = some (.bool a0_9)) (ds := []) #[false, false, false, false, false, false, false, false, false, false, false, false, false, false, false, false, false, false] (by kernel_rfl) rfl rfl ⟨(blk_cell BK101.out 0).trans rfl, (blk_cell BK101.out 1).trans rfl, (blk_cell BK101.out 2).trans rfl, (blk_cell BK101.out 3).trans rfl, (blk_cell BK101.out 4).trans rfl, (blk_cell BK101.out 5).trans rfl, (blk_cell BK101.out 6).trans rfl, (blk_cell BK101.out 7).trans rfl, (blk_cell BK101.out 8).trans rfl, (blk_cell BK101.out 9).trans rfl⟩ (fun hHeld => ?_); refine with_tabW laws_FnPacketMarks.tab16 laws_FnPacketMarks.bits16 (fun HT_ HW_ => ?_)
                                  generalize wr.drew = w43 at HO_5 BK101 HB HR115 hHeld ⊢
                                  refine pure_ (i := 1) (N := some 47) (v := ?_) (a' := ?_) #[false, true, false, false, false, false, false, false, false, false, false, false, false, false, false, false, false, false] rfl rfl (any_of HT_.out (by kernel_rfl)) (fun _ _ _ h => h) (Or.inl ⟨by rfl, ?_⟩) ?_ ?_
                                  rotate_left
                                  · intro w'
                                    go_simp
                                    with_reducible rfl
                                  rotate_left
                                  · simp only [Act.put, List.setIfInBounds_toArray, List.set_cons_zero, List.set_cons_succ, i64_w, i32_w]
                                    rfl
                                  refine pure_ (i := 2) (N := some 48) (v := ?_) (a' := ?_) #[false, true, true, false, false, false, false, false, false, false, false, false, false, false, false, false, false, false] rfl rfl (any_of HT_.out (by kernel_rfl)) (fun _ _ _ h => h) (Or.inl ⟨by rfl, ?_⟩) ?_ ?_
                                  rotate_left
                                  · intro w'
                                    go_simp
                                    with_reducible rfl
                                  rotate_left
                                  · simp only [Act.put, List.setIfInBounds_toArray, List.set_cons_zero, List.set_cons_succ, i64_w, i32_w]
                                    rfl
                                  refine pure_ (i := 3) (N := some 49) (v := ?_) (a' := ?_) #[false, true, true, true, false, false, false, false, false, false, false, false, false, false, false, false, false, false] rfl rfl (any_of HT_.out (by kernel_rfl)) (fun _ _ _ h => h) (Or.inl ⟨by rfl, ?_⟩) ?_ ?_
                                  rotate_left
                                  · intro w'
                                    go_simp
                                    with_reducible rfl
                                  rotate_left
                                  · simp only [Act.put, List.setIfInBounds_toArray, List.set_cons_zero, List.set_cons_succ, i64_w, i32_w]
                                    rfl
                                  refine pure_ (i := 4) (N := some 50) (v := ?_) (a' := ?_) #[false, true, true, true, true, false, false, false, false, false, false, false, false, false, false, false, false, false] rfl rfl (any_of HT_.out (by kernel_rfl)) (fun _ _ _ h => h) (Or.inl ⟨by rfl, ?_⟩) ?_ ?_
                                  rotate_left
                                  · intro w'
                                    go_simp
                                    with_reducible rfl
                                  rotate_left
                                  · simp only [Act.put, List.setIfInBounds_toArray, List.set_cons_zero, List.set_cons_succ, i64_w, i32_w]
                                    rfl
                                  refine pure_ (i := 5) (N := some 51) (v := ?_) (a' := ?_) #[false, true, true, true, true, true, false, false, false, false, false, false, false, false, false, false, false, false] rfl rfl (any_of HT_.out (by kernel_rfl)) (fun _ _ _ h => h) (Or.inl ⟨by rfl, ?_⟩) ?_ ?_
                                  rotate_left
                                  · intro w'
                                    go_simp
                                    with_reducible rfl
                                  rotate_left
                                  · simp only [Act.put, List.setIfInBounds_toArray, List.set_cons_zero, List.set_cons_succ, i64_w, i32_w]
                                    rfl
                                  refine pure_ (i := 6) (N := some 52) (v := ?_) (a' := ?_) #[false, true, true, true, true, true, true, false, false, false, false, false, false, false, false, false, false, false] rfl rfl (any_of HT_.out (by kernel_rfl)) (fun _ _ _ h => h) (Or.inl ⟨by rfl, ?_⟩) ?_ ?_
                                  rotate_left
                                  · intro w'
                                    go_simp
                                    with_reducible rfl
                                  rotate_left
                                  · simp only [Act.put, List.setIfInBounds_toArray, List.set_cons_zero, List.set_cons_succ, i64_w, i32_w]
                                    rfl
                                  refine pure_ (i := 7) (N := some 53) (v := ?_) (a' := ?_) #[false, true, true, true, true, true, true, true, false, false, false, false, false, false, false, false, false, false] rfl rfl (any_of HT_.out (by kernel_rfl)) (fun _ _ _ h => h) (Or.inl ⟨by rfl, ?_⟩) ?_ ?_
                                  rotate_left
                                  · intro w'
                                    go_simp
                                    with_reducible rfl
                                  rotate_left
                                  · simp only [Act.put, List.setIfInBounds_toArray, List.set_cons_zero, List.set_cons_succ, i64_w, i32_w]
                                    rfl
                                  refine take_ (i := 0) (N := some 46) (v := ?_) (a' := ?_) #[true, true, true, true, true, true, true, true, false, false, false, false, false, false, false, false, false, false] rfl rfl (take_ofW HT_.out HW_.out (by kernel_rfl)) (fun _ _ _ h => h) (Or.inl ⟨by rfl, ?_⟩) hHeld ?_ ?_
                                  rotate_left
                                  · rintro w' ⟨s0, s1, s2, s3, s4, s5, s6, s7, s8, s9⟩
                                    go_simp
                                    with_reducible rfl
                                  rotate_left
                                  · simp only [Act.put, List.setIfInBounds_toArray, List.set_cons_zero, List.set_cons_succ, i64_w, i32_w]
                                    rfl
                                  refine join_ (σ := Value × Nat) 3 #[true, true, true, true, true, true, true, true, true, true, true, true, true, true, true, false, false, false] (fun s_ => [(54, s_.1), (55, .tuple #[.agg #[.int .u32 t119, .int .u8 t120, .int .u8 t121, .int .u16 t122], .int .u8 t123, .bool true]), (10, .pointer (some ⟨s_.2, 0, none⟩)), (45, .tuple #[.agg #[.int .u32 t119, .int .u8 t120, .int .u8 t121, .int .u16 t122], .int .u8 t123, .bool true]), (56, .agg #[.int .u32 t119, .int .u8 t120, .int .u8 t121, .int .u16 t122]), (57, .int .u8 t123), (58, .bool true)]) (fun s_ w' => (w'.cell? ⟨gb101, 0, none⟩ = some (.int .u16 a0_0) ∧ w'.cell? ⟨gb101, 1, none⟩ = some (.int .u16 a0_1) ∧ w'.cell? ⟨gb101, 2, none⟩ = some (.int .u16 a0_2) ∧ w'.cell? ⟨gb101, 3, none⟩ = some (.int .u16 a0_3) ∧ w'.cell? ⟨gb101, 4, none⟩ = some (.int .u16 a0_4) ∧ w'.cell? ⟨gb101, 5, none⟩ = some (.int .u8 a0_5) ∧ w'.cell? ⟨gb101, 6, none⟩ = some (.int .u8 a0_6) ∧ w'.cell? ⟨gb101, 7, none⟩ = some (.int .u32 a0_7) ∧ w'.cell? ⟨gb101, 8, none⟩ = some (.int .u32 a0_8) ∧ w'.cell? ⟨gb101, 9, none⟩ = some (.bool a0_9)) ∧ (Kd.R (Kd.int .u8) 5 w' w.heap.size (fun k_ => some k_ ≠ (.slice Ao20 x5_1.length co20 : Value).ownBlock) s_.1 t116) ∧ (Kd.R (Kd.int .u8) 5 w' w.heap.size (fun k_ => some k_ ≠ (s_.1 : Value).ownBlock) (.slice Ao20 x5_1.length co20) x5_1) ∧ (w'.heap[gb101]? = some (.cells #[.int .u16 a0_0, .int .u16 a0_1, .int .u16 a0_2, .int .u16 a0_3, .int .u16 a0_4, .int .u8 a0_5, .int .u8 a0_6, .int .u32 a0_7, .int .u32 a0_8, .bool a0_9] 34 (0, 0))) ∧ (w'.heap[s_.2]? = some (.cells #[.int .u32 0, .int .u8 0, .int .u8 0, .int .u16 0] 28 (0, 0))) ∧ (w.heap.size ≤ s_.2) ∧ (w.heap.size ≤ s_.2) ∧ (gb101 ≠ s_.2) ∧ (s_.2 ≠ gb101) ∧ (Below w.heap.size w w')) ?_ ?_
                                  rotate_left
                                  · intro hCont
                                    refine two_ (i := 8) (j := 14) (Ni := some 54) (Nj := some 10) #[true, true, true, true, true, true, true, true, true, false, false, false, false, false, false, false, false, false] #[true, true, true, true, true, true, true, true, false, false, false, false, false, false, true, false, false, false] rfl rfl rfl rfl (two_of HT_.out (by kernel_rfl)) (by decide) (by decide) (fun K hK => ?_) (fun K hK => ?_)
                                    · skip
                                      refine goes_ Tryd.func12 (by kernel_rfl) rfl #[.slice A44 y112.length c44] (by rfl) rfl rfl (by (try simp only [List.map_toArray, List.map_cons, List.map_nil]); first | done | rfl | (simp only [List.length_drop, List.length_take]; rfl)) ?_
                                      with_reducible refine (bytes_Clone.calls _ _ y112 t116 _ ?side1 ?side2 A28.out).mono ?_
                                      (case side1 => repeat (first | exact (by repeat (first | (with_reducible exact HR115.out) | (with_reducible refine Kd.C_alloc ?_ _) | (with_reducible refine Kd.C_drewN ?_ _) | (with_reducible refine Kd.C_drew ?_) | exact HR115.out)) | (with_reducible refine Kd.C_alloc ?_ _) | (with_reducible refine Kd.C_drewN ?_ _) | (with_reducible refine Kd.C_drew ?_)))
                                      (case side2 => exact HC115.out)
                                      rintro e w45 ⟨v117, rfl, ho0, hb⟩
                                      refine ⟨_, rfl, ?_⟩
                                      have n0_ := Aside0.mk (Kd.R_elder' (by (with_reducible repeat (first | apply Kd.R_alloc | apply Kd.R_drewN | apply Kd.R_drew)); exact HO_5.out) (Kd.R_base ho0) hb)
                                      have n1_ := Aside0.mk (Kd.R_lower (Kd.R_new' ho0 (Kd.R_lt (by (with_reducible repeat (first | apply Kd.R_alloc | apply Kd.R_drewN | apply Kd.R_drew)); exact HO_5.out))) (below_size (by repeat (first | (with_reducible first | exact HB.out | apply below_alloc | apply pw_below_drewN | apply below_drew1 | refine below_set ?_ GE101.out) | exact HB.out))))
                                      have n2_ := Aside0.mk (blk_below (g := gb101) (o := .cells #[.int .u16 a0_0, .int .u16 a0_1, .int .u16 a0_2, .int .u16 a0_3, .int .u16 a0_4, .int .u8 a0_5, .int .u8 a0_6, .int .u32 a0_7, .int .u32 a0_8, .bool a0_9] 34 (0, 0)) (by (with_reducible repeat (first | refine blk_drewN ?_ _ | refine blk_drew ?_ | refine blk_alloc ?_ _)); exact BK101.out) hb)
                                      have n3_ := Aside0.mk (Kd.C_below (by repeat (first | (with_reducible exact HR115.out) | (with_reducible refine Kd.C_alloc ?_ _) | (with_reducible refine Kd.C_drewN ?_ _) | (with_reducible refine Kd.C_drew ?_) | exact HR115.out)) hb)
                                      have n4_ := Aside0.mk (below_step (by repeat (first | (with_reducible first | exact HB.out | apply below_alloc | apply pw_below_drewN | apply below_drew1 | refine below_set ?_ GE101.out) | exact HB.out)) hb)
                                      clear HO_5
                                      clear BK101
                                      clear HR115
                                      clear HB
                                      have HO_5 := n0_
                                      have HO118 := n1_
                                      have BK101 := n2_
                                      have HR115 := n3_
                                      have HB := n4_
                                      clear n0_ n1_ n2_ n3_ n4_
                                      (try clear hb)
                                      (try clear hb2)
                                      (try clear hk)
                                      (try clear hi)
                                      (try clear ho0)
                                      obtain ⟨Ao46, co46, eo46⟩ := Kd.R_slice HO118.out
                                      (first | subst eo46 | (injection eo46 with f1_ f2_ f3_; have f4_ := f1_.symm; have f5_ := f3_.symm; clear f1_ f2_ f3_; subst f4_; subst f5_))
                                      refine hK.out _ _ ⟨(blk_cell BK101.out 0).trans rfl, (blk_cell BK101.out 1).trans rfl, (blk_cell BK101.out 2).trans rfl, (blk_cell BK101.out 3).trans rfl, (blk_cell BK101.out 4).trans rfl, (blk_cell BK101.out 5).trans rfl, (blk_cell BK101.out 6).trans rfl, (blk_cell BK101.out 7).trans rfl, (blk_cell BK101.out 8).trans rfl, (blk_cell BK101.out 9).trans rfl⟩ (fun hHeld => ?_)
                                      clear hK K
                                      refine norm_ (a' := ?_) ?_ ?_
                                      rotate_left
                                      · show Act.put _ (some 54) _ = _
                                        simp only [Act.put, List.setIfInBounds_toArray, List.set_cons_zero, List.set_cons_succ, i64_w, i32_w]
                                        rfl
                                      refine two_ (i := 9) (j := 14) (Ni := some 55) (Nj := some 10) #[true, true, true, true, true, true, true, true, true, true, false, false, false, false, false, false, false, false] #[true, true, true, true, true, true, true, true, true, false, false, false, false, false, true, false, false, false] rfl rfl rfl rfl (two_of HT_.out (by kernel_rfl)) (by decide) (by decide) (fun K hK => ?_) (fun K hK => ?_)
                                      · skip
                                        refine goes_ Tryd.func22 (by kernel_rfl) rfl #[.agg #[.int .u16 a0_0, .int .u16 a0_1, .int .u16 a0_2, .int .u16 a0_3, .int .u16 a0_4, .int .u8 a0_5, .int .u8 a0_6, .int .u32 a0_7, .int .u32 a0_8, .bool a0_9], .slice Ao46 t116.length co46] (by rfl) rfl rfl (by (try simp only [List.map_toArray, List.map_cons, List.map_nil]); first | done | rfl | (simp only [List.length_drop, List.length_take]; rfl)) ?_
                                        with_reducible refine (impl_MarkerRead.calls a0_0 a0_1 a0_2 a0_3 a0_4 a0_5 a0_6 a0_7 a0_8 a0_9 _ _ t116 t119 t120 t121 t122 t123 true _ ?side1 ?side2 A29.out).mono ?_
                                        (case side1 => repeat (first | exact (Kd.R_reads' HO118.out).2.2 | (with_reducible refine Kd.C_alloc ?_ _) | (with_reducible refine Kd.C_drewN ?_ _) | (with_reducible refine Kd.C_drew ?_)))
                                        (case side2 => exact (Kd.R_reads' HO118.out).2.1)
                                        rintro e w47 ⟨rfl, hb⟩
                                        refine ⟨_, rfl, ?_⟩
                                        have n0_ := Aside0.mk (Kd.R_below (by (with_reducible repeat (first | apply Kd.R_alloc | apply Kd.R_drewN | apply Kd.R_drew)); exact HO_5.out) hb)
                                        have n1_ := Aside0.mk (Kd.R_below (by (with_reducible repeat (first | apply Kd.R_alloc | apply Kd.R_drewN | apply Kd.R_drew)); exact HO118.out) hb)
                                        have n2_ := Aside0.mk (blk_below (g := gb101) (o := .cells #[.int .u16 a0_0, .int .u16 a0_1, .int .u16 a0_2, .int .u16 a0_3, .int .u16 a0_4, .int .u8 a0_5, .int .u8 a0_6, .int .u32 a0_7, .int .u32 a0_8, .bool a0_9] 34 (0, 0)) (by (with_reducible repeat (first | refine blk_drewN ?_ _ | refine blk_drew ?_ | refine blk_alloc ?_ _)); exact BK101.out) hb)
                                        have n3_ := Aside0.mk (Kd.C_below (by repeat (first | (with_reducible exact HR115.out) | (with_reducible refine Kd.C_alloc ?_ _) | (with_reducible refine Kd.C_drewN ?_ _) | (with_reducible refine Kd.C_drew ?_) | exact HR115.out)) hb)
                                        have n4_ := Aside0.mk (below_step (by repeat (first | (with_reducible first | exact HB.out | apply below_alloc | apply pw_below_drewN | apply below_drew1 | refine below_set ?_ GE101.out) | exact HB.out)) hb)
                                        clear HO_5
                                        clear HO118
                                        clear BK101
                                        clear HR115
                                        clear HB
                                        have HO_5 := n0_
                                        have HO118 := n1_
                                        have BK101 := n2_
                                        have HR115 := n3_
                                        have HB := n4_
                                        clear n0_ n1_ n2_ n3_ n4_
                                        (try clear hb)
                                        (try clear hb2)
                                        (try clear hk)
                                        (try clear hi)
                                        refine hK.out _ _ ⟨(blk_cell BK101.out 0).trans rfl, (blk_cell BK101.out 1).trans rfl, (blk_cell BK101.out 2).trans rfl, (blk_cell BK101.out 3).trans rfl, (blk_cell BK101.out 4).trans rfl, (blk_cell BK101.out 5).trans rfl, (blk_cell BK101.out 6).trans rfl, (blk_cell BK101.out 7).trans rfl, (blk_cell BK101.out 8).trans rfl, (blk_cell BK101.out 9).trans rfl⟩ (fun hHeld => ?_)
                                        clear hK K
                                        refine norm_ (a' := ?_) ?_ ?_
                                        rotate_left
                                        · show Act.put _ (some 55) _ = _
                                          simp only [Act.put, List.setIfInBounds_toArray, List.set_cons_zero, List.set_cons_succ, i64_w, i32_w]
                                          rfl
                                        refine pure_ (i := 10) (N := some 45) (v := ?_) (a' := ?_) #[true, true, true, true, true, true, true, true, true, true, true, false, false, false, false, false, false, false] rfl rfl (any_of HT_.out (by kernel_rfl)) (fun _ _ _ h => h) (Or.inl ⟨by rfl, ?_⟩) ?_ ?_
                                        rotate_left
                                        · intro w'
                                          go_simp
                                          with_reducible rfl
                                        rotate_left
                                        · simp only [Act.put, List.setIfInBounds_toArray, List.set_cons_zero, List.set_cons_succ, i64_w, i32_w]
                                          rfl
                                        refine pure_ (i := 11) (N := some 56) (v := ?_) (a' := ?_) #[true, true, true, true, true, true, true, true, true, true, true, true, false, false, false, false, false, false] rfl rfl (any_of HT_.out (by kernel_rfl)) (fun _ _ _ h => h) (Or.inl ⟨by rfl, ?_⟩) ?_ ?_
                                        rotate_left
                                        · intro w'
                                          go_simp
                                          with_reducible rfl
                                        rotate_left
                                        · simp only [Act.put, List.setIfInBounds_toArray, List.set_cons_zero, List.set_cons_succ, i64_w, i32_w]
                                          rfl
                                        refine pure_ (i := 12) (N := some 57) (v := ?_) (a' := ?_) #[true, true, true, true, true, true, true, true, true, true, true, true, true, false, false, false, false, false] rfl rfl (any_of HT_.out (by kernel_rfl)) (fun _ _ _ h => h) (Or.inl ⟨by rfl, ?_⟩) ?_ ?_
                                        rotate_left
                                        · intro w'
                                          go_simp
                                          with_reducible rfl
                                        rotate_left
                                        · simp only [Act.put, List.setIfInBounds_toArray, List.set_cons_zero, List.set_cons_succ, i64_w, i32_w]
                                          rfl
                                        refine pure_ (i := 13) (N := some 58) (v := ?_) (a' := ?_) #[true, true, true, true, true, true, true, true, true, true, true, true, true, true, false, false, false, false] rfl rfl (any_of HT_.out (by kernel_rfl)) (fun _ _ _ h => h) (Or.inl ⟨by rfl, ?_⟩) ?_ ?_
                                        rotate_left
                                        · intro w'
                                          go_simp
                                          with_reducible rfl
                                        rotate_left
                                        · simp only [Act.put, List.setIfInBounds_toArray, List.set_cons_zero, List.set_cons_succ, i64_w, i32_w]
                                          rfl
                                        refine one_ (i := 14) (N := some 10) #[true, true, true, true, true, true, true, true, true, true, true, true, true, true, true, false, false, false] rfl rfl (one_of HT_.out (by kernel_rfl)) (by decide) (fun K hK => ?_)
                                        refine box_step ?hg (N := 10) ?hd (cs := #[.int .u32 0, .int .u8 0, .int .u8 0, .int .u16 0]) (t := 28) ?hr ?_; (case hd => rfl); (case hg => rfl); (case hr => first | (go_simp; done) | (go_simp; rfl))
                                        intro gb125 hg w48 hbox hb
                                        have n0_ := Aside0.mk (Kd.R_below (by (with_reducible repeat (first | apply Kd.R_alloc | apply Kd.R_drewN | apply Kd.R_drew)); exact HO_5.out) hb)
                                        have n1_ := Aside0.mk (Kd.R_below (by (with_reducible repeat (first | apply Kd.R_alloc | apply Kd.R_drewN | apply Kd.R_drew)); exact HO118.out) hb)
                                        have n2_ := Aside0.mk (blk_below (g := gb101) (o := .cells #[.int .u16 a0_0, .int .u16 a0_1, .int .u16 a0_2, .int .u16 a0_3, .int .u16 a0_4, .int .u8 a0_5, .int .u8 a0_6, .int .u32 a0_7, .int .u32 a0_8, .bool a0_9] 34 (0, 0)) (by (with_reducible repeat (first | refine blk_drewN ?_ _ | refine blk_drew ?_ | refine blk_alloc ?_ _)); exact BK101.out) hb)
                                        have n3_ := Aside0.mk (Kd.C_below (by repeat (first | (with_reducible exact HR115.out) | (with_reducible refine Kd.C_alloc ?_ _) | (with_reducible refine Kd.C_drewN ?_ _) | (with_reducible refine Kd.C_drew ?_) | exact HR115.out)) hb)
                                        have n4_ := Aside0.mk (below_step (by repeat (first | (with_reducible first | exact HB.out | apply below_alloc | apply pw_below_drewN | apply below_drew1 | refine below_set ?_ GE101.out) | exact HB.out)) hb)
                                        have n5_ := Aside0.mk (hbox)
                                        have n6_ := Aside0.mk ((by rw [hg]; exact (below_size (by repeat (first | (with_reducible first | exact HB.out | apply below_alloc | apply pw_below_drewN | apply below_drew1 | refine below_set ?_ GE101.out) | exact HB.out))) : w.heap.size ≤ gb125))
                                        have n7_ := Aside0.mk ((by rw [hg]; exact (below_size (by repeat (first | (with_reducible first | exact HB.out | apply below_alloc | apply pw_below_drewN | apply below_drew1 | refine below_set ?_ GE101.out) | exact HB.out))) : w.heap.size ≤ gb125))
                                        have n8_ := Aside0.mk ((by rw [hg]; exact Nat.ne_of_lt (blk_lt (g := gb101) (o := .cells #[.int .u16 a0_0, .int .u16 a0_1, .int .u16 a0_2, .int .u16 a0_3, .int .u16 a0_4, .int .u8 a0_5, .int .u8 a0_6, .int .u32 a0_7, .int .u32 a0_8, .bool a0_9] 34 (0, 0)) (by (with_reducible repeat (first | refine blk_drewN ?_ _ | refine blk_drew ?_ | refine blk_alloc ?_ _)); exact BK101.out)) : gb101 ≠ gb125))
                                        have n9_ := Aside0.mk ((by rw [hg]; exact Nat.ne_of_gt (blk_lt (g := gb101) (o := .cells #[.int .u16 a0_0, .int .u16 a0_1, .int .u16 a0_2, .int .u16 a0_3, .int .u16 a0_4, .int .u8 a0_5, .int .u8 a0_6, .int .u32 a0_7, .int .u32 a0_8, .bool a0_9] 34 (0, 0)) (by (with_reducible repeat (first | refine blk_drewN ?_ _ | refine blk_drew ?_ | refine blk_alloc ?_ _)); exact BK101.out)) : gb125 ≠ gb101))
                                        clear HO_5
                                        clear HO118
                                        clear BK101
                                        clear HR115
                                        clear HB
                                        have HO_5 := n0_
                                        have HO118 := n1_
                                        have BK101 := n2_
                                        have HR115 := n3_
                                        have HB := n4_
                                        have BK125 := n5_
                                        have GW125 := n6_
                                        have GE125 := n7_
                                        have NB101_125 := n8_
                                        have NB125_101 := n9_
                                        clear n0_ n1_ n2_ n3_ n4_ n5_ n6_ n7_ n8_ n9_
                                        clear hb hbox hg
                                        refine hK.out _ _ ⟨(blk_cell BK101.out 0).trans rfl, (blk_cell BK101.out 1).trans rfl, (blk_cell BK101.out 2).trans rfl, (blk_cell BK101.out 3).trans rfl, (blk_cell BK101.out 4).trans rfl, (blk_cell BK101.out 5).trans rfl, (blk_cell BK101.out 6).trans rfl, (blk_cell BK101.out 7).trans rfl, (blk_cell BK101.out 8).trans rfl, (blk_cell BK101.out 9).trans rfl⟩ (fun hHeld => ?_)
                                        clear hK K
                                        refine norm_ (a' := ?_) ?_ ?_
                                        rotate_left
                                        · show Act.put _ (some 10) _ = _
                                          simp only [Act.put, List.setIfInBounds_toArray, List.set_cons_zero, List.set_cons_succ, i64_w, i32_w]
                                          rfl
                                        exact norm_ (by simp only [putAll, Act.put, List.setIfInBounds_toArray, List.set_cons_zero, List.set_cons_succ]) (hCont (.slice Ao46 t116.length co46, gb125) _ ⟨hHeld, (by (with_reducible repeat (first | apply Kd.R_alloc | apply Kd.R_drewN | apply Kd.R_drew)); exact Kd.R_mono HO118.out (fun _ hk => hk.2)), (by (with_reducible repeat (first | apply Kd.R_alloc | apply Kd.R_drewN | apply Kd.R_drew)); exact Kd.R_mono HO_5.out (fun _ hk => hk.2)), (by (with_reducible repeat (first | refine blk_drewN ?_ _ | refine blk_drew ?_ | refine blk_alloc ?_ _)); exact BK101.out), (by (with_reducible repeat (first | refine blk_drewN ?_ _ | refine blk_drew ?_ | refine blk_alloc ?_ _)); exact BK125.out), GW125.out, GE125.out, NB101_125.out, NB125_101.out, (by repeat (first | (with_reducible first | exact HB.out | apply below_alloc | apply pw_below_drewN | apply below_drew1 | refine below_set ?_ GE101.out | refine below_set ?_ GE125.out) | exact HB.out))⟩)
                                      · skip
                                        refine box_step ?hg (N := 10) ?hd (cs := #[.int .u32 0, .int .u8 0, .int .u8 0, .int .u16 0]) (t := 28) ?hr ?_; (case hd => rfl); (case hg => rfl); (case hr => first | (go_simp; done) | (go_simp; rfl))
                                        intro gb125 hg w46 hbox hb
                                        have n0_ := Aside0.mk (Kd.R_below (by (with_reducible repeat (first | apply Kd.R_alloc | apply Kd.R_drewN | apply Kd.R_drew)); exact HO_5.out) hb)
                                        have n1_ := Aside0.mk (Kd.R_below (by (with_reducible repeat (first | apply Kd.R_alloc | apply Kd.R_drewN | apply Kd.R_drew)); exact HO118.out) hb)
                                        have n2_ := Aside0.mk (blk_below (g := gb101) (o := .cells #[.int .u16 a0_0, .int .u16 a0_1, .int .u16 a0_2, .int .u16 a0_3, .int .u16 a0_4, .int .u8 a0_5, .int .u8 a0_6, .int .u32 a0_7, .int .u32 a0_8, .bool a0_9] 34 (0, 0)) (by (with_reducible repeat (first | refine blk_drewN ?_ _ | refine blk_drew ?_ | refine blk_alloc ?_ _)); exact BK101.out) hb)
                                        have n3_ := Aside0.mk (Kd.C_below (by repeat (first | (with_reducible exact HR115.out) | (with_reducible refine Kd.C_alloc ?_ _) | (with_reducible refine Kd.C_drewN ?_ _) | (with_reducible refine Kd.C_drew ?_) | exact HR115.out)) hb)
                                        have n4_ := Aside0.mk (below_step (by repeat (first | (with_reducible first | exact HB.out | apply below_alloc | apply pw_below_drewN | apply below_drew1 | refine below_set ?_ GE101.out) | exact HB.out)) hb)
                                        have n5_ := Aside0.mk (hbox)
                                        have n6_ := Aside0.mk ((by rw [hg]; exact (below_size (by repeat (first | (with_reducible first | exact HB.out | apply below_alloc | apply pw_below_drewN | apply below_drew1 | refine below_set ?_ GE101.out) | exact HB.out))) : w.heap.size ≤ gb125))
                                        have n7_ := Aside0.mk ((by rw [hg]; exact (below_size (by repeat (first | (with_reducible first | exact HB.out | apply below_alloc | apply pw_below_drewN | apply below_drew1 | refine below_set ?_ GE101.out) | exact HB.out))) : w.heap.size ≤ gb125))
                                        have n8_ := Aside0.mk ((by rw [hg]; exact Nat.ne_of_lt (blk_lt (g := gb101) (o := .cells #[.int .u16 a0_0, .int .u16 a0_1, .int .u16 a0_2, .int .u16 a0_3, .int .u16 a0_4, .int .u8 a0_5, .int .u8 a0_6, .int .u32 a0_7, .int .u32 a0_8, .bool a0_9] 34 (0, 0)) (by (with_reducible repeat (first | refine blk_drewN ?_ _ | refine blk_drew ?_ | refine blk_alloc ?_ _)); exact BK101.out)) : gb101 ≠ gb125))
                                        have n9_ := Aside0.mk ((by rw [hg]; exact Nat.ne_of_gt (blk_lt (g := gb101) (o := .cells #[.int .u16 a0_0, .int .u16 a0_1, .int .u16 a0_2, .int .u16 a0_3, .int .u16 a0_4, .int .u8 a0_5, .int .u8 a0_6, .int .u32 a0_7, .int .u32 a0_8, .bool a0_9] 34 (0, 0)) (by (with_reducible repeat (first | refine blk_drewN ?_ _ | refine blk_drew ?_ | refine blk_alloc ?_ _)); exact BK101.out)) : gb125 ≠ gb101))
                                        clear HO_5
                                        clear HO118
                                        clear BK101
                                        clear HR115
                                        clear HB
                                        have HO_5 := n0_
                                        have HO118 := n1_
                                        have BK101 := n2_
                                        have HR115 := n3_
                                        have HB := n4_
                                        have BK125 := n5_
                                        have GW125 := n6_
                                        have GE125 := n7_
                                        have NB101_125 := n8_
                                        have NB125_101 := n9_
                                        clear n0_ n1_ n2_ n3_ n4_ n5_ n6_ n7_ n8_ n9_
                                        clear hb hbox hg
                                        obtain ⟨Ao47, co47, eo47⟩ := Kd.R_slice HO118.out
                                        (first | subst eo47 | (injection eo47 with f1_ f2_ f3_; have f4_ := f1_.symm; have f5_ := f3_.symm; clear f1_ f2_ f3_; subst f4_; subst f5_))
                                        refine hK.out _ _ ⟨(blk_cell BK101.out 0).trans rfl, (blk_cell BK101.out 1).trans rfl, (blk_cell BK101.out 2).trans rfl, (blk_cell BK101.out 3).trans rfl, (blk_cell BK101.out 4).trans rfl, (blk_cell BK101.out 5).trans rfl, (blk_cell BK101.out 6).trans rfl, (blk_cell BK101.out 7).trans rfl, (blk_cell BK101.out 8).trans rfl, (blk_cell BK101.out 9).trans rfl⟩ (fun hHeld => ?_)
                                        clear hK K
                                        refine norm_ (a' := ?_) ?_ ?_
                                        rotate_left
                                        · show Act.put _ (some 10) _ = _
                                          simp only [Act.put, List.setIfInBounds_toArray, List.set_cons_zero, List.set_cons_succ, i64_w, i32_w]
                                          rfl
                                        refine one_ (i := 9) (N := some 55) #[true, true, true, true, true, true, true, true, true, true, false, false, false, false, true, false, false, false] rfl rfl (one_of HT_.out (by kernel_rfl)) (by decide) (fun K hK => ?_)
                                        refine goes_ Tryd.func22 (by kernel_rfl) rfl #[.agg #[.int .u16 a0_0, .int .u16 a0_1, .int .u16 a0_2, .int .u16 a0_3, .int .u16 a0_4, .int .u8 a0_5, .int .u8 a0_6, .int .u32 a0_7, .int .u32 a0_8, .bool a0_9], .slice Ao47 t116.length co47] (by rfl) rfl rfl (by (try simp only [List.map_toArray, List.map_cons, List.map_nil]); first | done | rfl | (simp only [List.length_drop, List.length_take]; rfl)) ?_
                                        with_reducible refine (impl_MarkerRead.calls a0_0 a0_1 a0_2 a0_3 a0_4 a0_5 a0_6 a0_7 a0_8 a0_9 _ _ t116 t119 t120 t121 t122 t123 true _ ?side1 ?side2 A29.out).mono ?_
                                        (case side1 => repeat (first | exact (Kd.R_reads' HO118.out).2.2 | (with_reducible refine Kd.C_alloc ?_ _) | (with_reducible refine Kd.C_drewN ?_ _) | (with_reducible refine Kd.C_drew ?_)))
                                        (case side2 => exact (Kd.R_reads' HO118.out).2.1)
                                        rintro e w48 ⟨rfl, hb⟩
                                        refine ⟨_, rfl, ?_⟩
                                        have n0_ := Aside0.mk (Kd.R_below (by (with_reducible repeat (first | apply Kd.R_alloc | apply Kd.R_drewN | apply Kd.R_drew)); exact HO_5.out) hb)
                                        have n1_ := Aside0.mk (Kd.R_below (by (with_reducible repeat (first | apply Kd.R_alloc | apply Kd.R_drewN | apply Kd.R_drew)); exact HO118.out) hb)
                                        have n2_ := Aside0.mk (blk_below (g := gb101) (o := .cells #[.int .u16 a0_0, .int .u16 a0_1, .int .u16 a0_2, .int .u16 a0_3, .int .u16 a0_4, .int .u8 a0_5, .int .u8 a0_6, .int .u32 a0_7, .int .u32 a0_8, .bool a0_9] 34 (0, 0)) (by (with_reducible repeat (first | refine blk_drewN ?_ _ | refine blk_drew ?_ | refine blk_alloc ?_ _)); exact BK101.out) hb)
                                        have n3_ := Aside0.mk (Kd.C_below (by repeat (first | (with_reducible exact HR115.out) | (with_reducible refine Kd.C_alloc ?_ _) | (with_reducible refine Kd.C_drewN ?_ _) | (with_reducible refine Kd.C_drew ?_) | exact HR115.out)) hb)
                                        have n4_ := Aside0.mk (blk_below (g := gb125) (o := .cells #[.int .u32 0, .int .u8 0, .int .u8 0, .int .u16 0] 28 (0, 0)) (by (with_reducible repeat (first | refine blk_drewN ?_ _ | refine blk_drew ?_ | refine blk_alloc ?_ _)); exact BK125.out) hb)
                                        have n5_ := Aside0.mk (below_step (by repeat (first | (with_reducible first | exact HB.out | apply below_alloc | apply pw_below_drewN | apply below_drew1 | refine below_set ?_ GE101.out | refine below_set ?_ GE125.out) | exact HB.out)) hb)
                                        clear HO_5
                                        clear HO118
                                        clear BK101
                                        clear HR115
                                        clear BK125
                                        clear HB
                                        have HO_5 := n0_
                                        have HO118 := n1_
                                        have BK101 := n2_
                                        have HR115 := n3_
                                        have BK125 := n4_
                                        have HB := n5_
                                        clear n0_ n1_ n2_ n3_ n4_ n5_
                                        (try clear hb)
                                        (try clear hb2)
                                        (try clear hk)
                                        (try clear hi)
                                        refine hK.out _ _ ⟨(blk_cell BK101.out 0).trans rfl, (blk_cell BK101.out 1).trans rfl, (blk_cell BK101.out 2).trans rfl, (blk_cell BK101.out 3).trans rfl, (blk_cell BK101.out 4).trans rfl, (blk_cell BK101.out 5).trans rfl, (blk_cell BK101.out 6).trans rfl, (blk_cell BK101.out 7).trans rfl, (blk_cell BK101.out 8).trans rfl, (blk_cell BK101.out 9).trans rfl⟩ (fun hHeld => ?_)
                                        clear hK K
                                        refine norm_ (a' := ?_) ?_ ?_
                                        rotate_left
                                        · show Act.put _ (some 55) _ = _
                                          simp only [Act.put, List.setIfInBounds_toArray, List.set_cons_zero, List.set_cons_succ, i64_w, i32_w]
                                          rfl
                                        refine pure_ (i := 10) (N := some 45) (v := ?_) (a' := ?_) #[true, true, true, true, true, true, true, true, true, true, true, false, false, false, true, false, false, false] rfl rfl (any_of HT_.out (by kernel_rfl)) (fun _ _ _ h => h) (Or.inl ⟨by rfl, ?_⟩) ?_ ?_
                                        rotate_left
                                        · intro w'
                                          go_simp
                                          with_reducible rfl
                                        rotate_left
                                        · simp only [Act.put, List.setIfInBounds_toArray, List.set_cons_zero, List.set_cons_succ, i64_w, i32_w]
                                          rfl
                                        refine pure_ (i := 11) (N := some 56) (v := ?_) (a' := ?_) #[true, true, true, true, true, true, true, true, true, true, true, true, false, false, true, false, false, false] rfl rfl (any_of HT_.out (by kernel_rfl)) (fun _ _ _ h => h) (Or.inl ⟨by rfl, ?_⟩) ?_ ?_
                                        rotate_left
                                        · intro w'
                                          go_simp
                                          with_reducible rfl
                                        rotate_left
                                        · simp only [Act.put, List.setIfInBounds_toArray, List.set_cons_zero, List.set_cons_succ, i64_w, i32_w]
                                          rfl
                                        refine pure_ (i := 12) (N := some 57) (v := ?_) (a' := ?_) #[true, true, true, true, true, true, true, true, true, true, true, true, true, false, true, false, false, false] rfl rfl (any_of HT_.out (by kernel_rfl)) (fun _ _ _ h => h) (Or.inl ⟨by rfl, ?_⟩) ?_ ?_
                                        rotate_left
                                        · intro w'
                                          go_simp
                                          with_reducible rfl
                                        rotate_left
                                        · simp only [Act.put, List.setIfInBounds_toArray, List.set_cons_zero, List.set_cons_succ, i64_w, i32_w]
                                          rfl
                                        refine pure_ (i := 13) (N := some 58) (v := ?_) (a' := ?_) #[true, true, true, true, true, true, true, true, true, true, true, true, true, true, true, false, false, false] rfl rfl (any_of HT_.out (by kernel_rfl)) (fun _ _ _ h => h) (Or.inl ⟨by rfl, ?_⟩) ?_ ?_
                                        rotate_left
                                        · intro w'
                                          go_simp
                                          with_reducible rfl
                                        rotate_left
                                        · simp only [Act.put, List.setIfInBounds_toArray, List.set_cons_zero, List.set_cons_succ, i64_w, i32_w]
                                          rfl
                                        exact norm_ (by simp only [putAll, Act.put, List.setIfInBounds_toArray, List.set_cons_zero, List.set_cons_succ]) (hCont (.slice Ao47 t116.length co47, gb125) _ ⟨hHeld, (by (with_reducible repeat (first | apply Kd.R_alloc | apply Kd.R_drewN | apply Kd.R_drew)); exact Kd.R_mono HO118.out (fun _ hk => hk.2)), (by (with_reducible repeat (first | apply Kd.R_alloc | apply Kd.R_drewN | apply Kd.R_drew)); exact Kd.R_mono HO_5.out (fun _ hk => hk.2)), (by (with_reducible repeat (first | refine blk_drewN ?_ _ | refine blk_drew ?_ | refine blk_alloc ?_ _)); exact BK101.out), (by (with_reducible repeat (first | refine blk_drewN ?_ _ | refine blk_drew ?_ | refine blk_alloc ?_ _)); exact BK125.out), GW125.out, GE125.out, NB101_125.out, NB125_101.out, (by repeat (first | (with_reducible first | exact HB.out | apply below_alloc | apply pw_below_drewN | apply below_drew1 | refine below_set ?_ GE101.out | refine below_set ?_ GE125.out) | exact HB.out))⟩)
                                    · skip
                                      refine box_step ?hg (N := 10) ?hd (cs := #[.int .u32 0, .int .u8 0, .int .u8 0, .int .u16 0]) (t := 28) ?hr ?_; (case hd => rfl); (case hg => rfl); (case hr => first | (go_simp; done) | (go_simp; rfl))
                                      intro gb125 hg w45 hbox hb
                                      have n0_ := Aside0.mk (Kd.R_below (by (with_reducible repeat (first | apply Kd.R_alloc | apply Kd.R_drewN | apply Kd.R_drew)); exact HO_5.out) hb)
                                      have n1_ := Aside0.mk (blk_below (g := gb101) (o := .cells #[.int .u16 a0_0, .int .u16 a0_1, .int .u16 a0_2, .int .u16 a0_3, .int .u16 a0_4, .int .u8 a0_5, .int .u8 a0_6, .int .u32 a0_7, .int .u32 a0_8, .bool a0_9] 34 (0, 0)) (by (with_reducible repeat (first | refine blk_drewN ?_ _ | refine blk_drew ?_ | refine blk_alloc ?_ _)); exact BK101.out) hb)
                                      have n2_ := Aside0.mk (Kd.C_below (by repeat (first | (with_reducible exact HR115.out) | (with_reducible refine Kd.C_alloc ?_ _) | (with_reducible refine Kd.C_drewN ?_ _) | (with_reducible refine Kd.C_drew ?_) | exact HR115.out)) hb)
                                      have n3_ := Aside0.mk (below_step (by repeat (first | (with_reducible first | exact HB.out | apply below_alloc | apply pw_below_drewN | apply below_drew1 | refine below_set ?_ GE101.out) | exact HB.out)) hb)
                                      have n4_ := Aside0.mk (hbox)
                                      have n5_ := Aside0.mk ((by rw [hg]; exact (below_size (by repeat (first | (with_reducible first | exact HB.out | apply below_alloc | apply pw_below_drewN | apply below_drew1 | refine below_set ?_ GE101.out) | exact HB.out))) : w.heap.size ≤ gb125))
                                      have n6_ := Aside0.mk ((by rw [hg]; exact (below_size (by repeat (first | (with_reducible first | exact HB.out | apply below_alloc | apply pw_below_drewN | apply below_drew1 | refine below_set ?_ GE101.out) | exact HB.out))) : w.heap.size ≤ gb125))
                                      have n7_ := Aside0.mk ((by rw [hg]; exact Nat.ne_of_lt (blk_lt (g := gb101) (o := .cells #[.int .u16 a0_0, .int .u16 a0_1, .int .u16 a0_2, .int .u16 a0_3, .int .u16 a0_4, .int .u8 a0_5, .int .u8 a0_6, .int .u32 a0_7, .int .u32 a0_8, .bool a0_9] 34 (0, 0)) (by (with_reducible repeat (first | refine blk_drewN ?_ _ | refine blk_drew ?_ | refine blk_alloc ?_ _)); exact BK101.out)) : gb101 ≠ gb125))
                                      have n8_ := Aside0.mk ((by rw [hg]; exact Nat.ne_of_gt (blk_lt (g := gb101) (o := .cells #[.int .u16 a0_0, .int .u16 a0_1, .int .u16 a0_2, .int .u16 a0_3, .int .u16 a0_4, .int .u8 a0_5, .int .u8 a0_6, .int .u32 a0_7, .int .u32 a0_8, .bool a0_9] 34 (0, 0)) (by (with_reducible repeat (first | refine blk_drewN ?_ _ | refine blk_drew ?_ | refine blk_alloc ?_ _)); exact BK101.out)) : gb125 ≠ gb101))
                                      clear HO_5
                                      clear BK101
                                      clear HR115
                                      clear HB
                                      have HO_5 := n0_
                                      have BK101 := n1_
                                      have HR115 := n2_
                                      have HB := n3_
                                      have BK125 := n4_
                                      have GW125 := n5_
                                      have GE125 := n6_
                                      have NB101_125 := n7_
                                      have NB125_101 := n8_
                                      clear n0_ n1_ n2_ n3_ n4_ n5_ n6_ n7_ n8_
                                      clear hb hbox hg
                                      refine hK.out _ _ ⟨(blk_cell BK101.out 0).trans rfl, (blk_cell BK101.out 1).trans rfl, (blk_cell BK101.out 2).trans rfl, (blk_cell BK101.out 3).trans rfl, (blk_cell BK101.out 4).trans rfl, (blk_cell BK101.out 5).trans rfl, (blk_cell BK101.out 6).trans rfl, (blk_cell BK101.out 7).trans rfl, (blk_cell BK101.out 8).trans rfl, (blk_cell BK101.out 9).trans rfl⟩ (fun hHeld => ?_)
                                      clear hK K
                                      refine norm_ (a' := ?_) ?_ ?_
                                      rotate_left
                                      · show Act.put _ (some 10) _ = _
                                        simp only [Act.put, List.setIfInBounds_toArray, List.set_cons_zero, List.set_cons_succ, i64_w, i32_w]
                                        rfl
                                      refine one_ (i := 8) (N := some 54) #[true, true, true, true, true, true, true, true, true, false, false, false, false, false, true, false, false, false] rfl rfl (one_of HT_.out (by kernel_rfl)) (by decide) (fun K hK => ?_)
                                      refine goes_ Tryd.func12 (by kernel_rfl) rfl #[.slice A44 y112.length c44] (by rfl) rfl rfl (by (try simp only [List.map_toArray, List.map_cons, List.map_nil]); first | done | rfl | (simp only [List.length_drop, List.length_take]; rfl)) ?_
                                      with_reducible refine (bytes_Clone.calls _ _ y112 t116 _ ?side1 ?side2 A28.out).mono ?_
                                      (case side1 => repeat (first | exact (by repeat (first | (with_reducible exact HR115.out) | (with_reducible refine Kd.C_alloc ?_ _) | (with_reducible refine Kd.C_drewN ?_ _) | (with_reducible refine Kd.C_drew ?_) | exact HR115.out)) | (with_reducible refine Kd.C_alloc ?_ _) | (with_reducible refine Kd.C_drewN ?_ _) | (with_reducible refine Kd.C_drew ?_)))
                                      (case side2 => exact HC115.out)
                                      rintro e w46 ⟨v117, rfl, ho0, hb⟩
                                      refine ⟨_, rfl, ?_⟩
                                      have n0_ := Aside0.mk (Kd.R_elder' (by (with_reducible repeat (first | apply Kd.R_alloc | apply Kd.R_drewN | apply Kd.R_drew)); exact HO_5.out) (Kd.R_base ho0) hb)
                                      have n1_ := Aside0.mk (Kd.R_lower (Kd.R_new' ho0 (Kd.R_lt (by (with_reducible repeat (first | apply Kd.R_alloc | apply Kd.R_drewN | apply Kd.R_drew)); exact HO_5.out))) (below_size (by repeat (first | (with_reducible first | exact HB.out | apply below_alloc | apply pw_below_drewN | apply below_drew1 | refine below_set ?_ GE101.out | refine below_set ?_ GE125.out) | exact HB.out))))
                                      have n2_ := Aside0.mk (blk_below (g := gb101) (o := .cells #[.int .u16 a0_0, .int .u16 a0_1, .int .u16 a0_2, .int .u16 a0_3, .int .u16 a0_4, .int .u8 a0_5, .int .u8 a0_6, .int .u32 a0_7, .int .u32 a0_8, .bool a0_9] 34 (0, 0)) (by (with_reducible repeat (first | refine blk_drewN ?_ _ | refine blk_drew ?_ | refine blk_alloc ?_ _)); exact BK101.out) hb)
                                      have n3_ := Aside0.mk (Kd.C_below (by repeat (first | (with_reducible exact HR115.out) | (with_reducible refine Kd.C_alloc ?_ _) | (with_reducible refine Kd.C_drewN ?_ _) | (with_reducible refine Kd.C_drew ?_) | exact HR115.out)) hb)
                                      have n4_ := Aside0.mk (blk_below (g := gb125) (o := .cells #[.int .u32 0, .int .u8 0, .int .u8 0, .int .u16 0] 28 (0, 0)) (by (with_reducible repeat (first | refine blk_drewN ?_ _ | refine blk_drew ?_ | refine blk_alloc ?_ _)); exact BK125.out) hb)
                                      have n5_ := Aside0.mk (below_step (by repeat (first | (with_reducible first | exact HB.out | apply below_alloc | apply pw_below_drewN | apply below_drew1 | refine below_set ?_ GE101.out | refine below_set ?_ GE125.out) | exact HB.out)) hb)
                                      clear HO_5
                                      clear BK101
                                      clear HR115
                                      clear BK125
                                      clear HB
                                      have HO_5 := n0_
                                      have HO118 := n1_
                                      have BK101 := n2_
                                      have HR115 := n3_
                                      have BK125 := n4_
                                      have HB := n5_
                                      clear n0_ n1_ n2_ n3_ n4_ n5_
                                      (try clear hb)
                                      (try clear hb2)
                                      (try clear hk)
                                      (try clear hi)
                                      (try clear ho0)
                                      obtain ⟨Ao47, co47, eo47⟩ := Kd.R_slice HO118.out
                                      (first | subst eo47 | (injection eo47 with f1_ f2_ f3_; have f4_ := f1_.symm; have f5_ := f3_.symm; clear f1_ f2_ f3_; subst f4_; subst f5_))
                                      refine hK.out _ _ ⟨(blk_cell BK101.out 0).trans rfl, (blk_cell BK101.out 1).trans rfl, (blk_cell BK101.out 2).trans rfl, (blk_cell BK101.out 3).trans rfl, (blk_cell BK101.out 4).trans rfl, (blk_cell BK101.out 5).trans rfl, (blk_cell BK101.out 6).trans rfl, (blk_cell BK101.out 7).trans rfl, (blk_cell BK101.out 8).trans rfl, (blk_cell BK101.out 9).trans rfl⟩ (fun hHeld => ?_)
                                      clear hK K
                                      refine norm_ (a' := ?_) ?_ ?_
                                      rotate_left
                                      · show Act.put _ (some 54) _ = _
                                        simp only [Act.put, List.setIfInBounds_toArray, List.set_cons_zero, List.set_cons_succ, i64_w, i32_w]
                                        rfl
                                      refine one_ (i := 9) (N := some 55) #[true, true, true, true, true, true, true, true, true, true, false, false, false, false, true, false, false, false] rfl rfl (one_of HT_.out (by kernel_rfl)) (by decide) (fun K hK => ?_)
                                      refine goes_ Tryd.func22 (by kernel_rfl) rfl #[.agg #[.int .u16 a0_0, .int .u16 a0_1, .int .u16 a0_2, .int .u16 a0_3, .int .u16 a0_4, .int .u8 a0_5, .int .u8 a0_6, .int .u32 a0_7, .int .u32 a0_8, .bool a0_9], .slice Ao47 t116.length co47] (by rfl) rfl rfl (by (try simp only [List.map_toArray, List.map_cons, List.map_nil]); first | done | rfl | (simp only [List.length_drop, List.length_take]; rfl)) ?_
                                      with_reducible refine (impl_MarkerRead.calls a0_0 a0_1 a0_2 a0_3 a0_4 a0_5 a0_6 a0_7 a0_8 a0_9 _ _ t116 t119 t120 t121 t122 t123 true _ ?side1 ?side2 A29.out).mono ?_
                                      (case side1 => repeat (first | exact (Kd.R_reads' HO118.out).2.2 | (with_reducible refine Kd.C_alloc ?_ _) | (with_reducible refine Kd.C_drewN ?_ _) | (with_reducible refine Kd.C_drew ?_)))
                                      (case side2 => exact (Kd.R_reads' HO118.out).2.1)
                                      rintro e w48 ⟨rfl, hb⟩
                                      refine ⟨_, rfl, ?_⟩
                                      have n0_ := Aside0.mk (Kd.R_below (by (with_reducible repeat (first | apply Kd.R_alloc | apply Kd.R_drewN | apply Kd.R_drew)); exact HO_5.out) hb)
                                      have n1_ := Aside0.mk (Kd.R_below (by (with_reducible repeat (first | apply Kd.R_alloc | apply Kd.R_drewN | apply Kd.R_drew)); exact HO118.out) hb)
                                      have n2_ := Aside0.mk (blk_below (g := gb101) (o := .cells #[.int .u16 a0_0, .int .u16 a0_1, .int .u16 a0_2, .int .u16 a0_3, .int .u16 a0_4, .int .u8 a0_5, .int .u8 a0_6, .int .u32 a0_7, .int .u32 a0_8, .bool a0_9] 34 (0, 0)) (by (with_reducible repeat (first | refine blk_drewN ?_ _ | refine blk_drew ?_ | refine blk_alloc ?_ _)); exact BK101.out) hb)
                                      have n3_ := Aside0.mk (Kd.C_below (by repeat (first | (with_reducible exact HR115.out) | (with_reducible refine Kd.C_alloc ?_ _) | (with_reducible refine Kd.C_drewN ?_ _) | (with_reducible refine Kd.C_drew ?_) | exact HR115.out)) hb)
                                      have n4_ := Aside0.mk (blk_below (g := gb125) (o := .cells #[.int .u32 0, .int .u8 0, .int .u8 0, .int .u16 0] 28 (0, 0)) (by (with_reducible repeat (first | refine blk_drewN ?_ _ | refine blk_drew ?_ | refine blk_alloc ?_ _)); exact BK125.out) hb)
                                      have n5_ := Aside0.mk (below_step (by repeat (first | (with_reducible first | exact HB.out | apply below_alloc | apply pw_below_drewN | apply below_drew1 | refine below_set ?_ GE101.out | refine below_set ?_ GE125.out) | exact HB.out)) hb)
                                      clear HO_5
                                      clear HO118
                                      clear BK101
                                      clear HR115
                                      clear BK125
                                      clear HB
                                      have HO_5 := n0_
                                      have HO118 := n1_
                                      have BK101 := n2_
                                      have HR115 := n3_
                                      have BK125 := n4_
                                      have HB := n5_
                                      clear n0_ n1_ n2_ n3_ n4_ n5_
                                      (try clear hb)
                                      (try clear hb2)
                                      (try clear hk)
                                      (try clear hi)
                                      refine hK.out _ _ ⟨(blk_cell BK101.out 0).trans rfl, (blk_cell BK101.out 1).trans rfl, (blk_cell BK101.out 2).trans rfl, (blk_cell BK101.out 3).trans rfl, (blk_cell BK101.out 4).trans rfl, (blk_cell BK101.out 5).trans rfl, (blk_cell BK101.out 6).trans rfl, (blk_cell BK101.out 7).trans rfl, (blk_cell BK101.out 8).trans rfl, (blk_cell BK101.out 9).trans rfl⟩ (fun hHeld => ?_)
                                      clear hK K
                                      refine norm_ (a' := ?_) ?_ ?_
                                      rotate_left
                                      · show Act.put _ (some 55) _ = _
                                        simp only [Act.put, List.setIfInBounds_toArray, List.set_cons_zero, List.set_cons_succ, i64_w, i32_w]
                                        rfl
                                      refine pure_ (i := 10) (N := some 45) (v := ?_) (a' := ?_) #[true, true, true, true, true, true, true, true, true, true, true, false, false, false, true, false, false, false] rfl rfl (any_of HT_.out (by kernel_rfl)) (fun _ _ _ h => h) (Or.inl ⟨by rfl, ?_⟩) ?_ ?_
                                      rotate_left
                                      · intro w'
                                        go_simp
                                        with_reducible rfl
                                      rotate_left
                                      · simp only [Act.put, List.setIfInBounds_toArray, List.set_cons_zero, List.set_cons_succ, i64_w, i32_w]
                                        rfl
                                      refine pure_ (i := 11) (N := some 56) (v := ?_) (a' := ?_) #[true, true, true, true, true, true, true, true, true, true, true, true, false, false, true, false, false, false] rfl rfl (any_of HT_.out (by kernel_rfl)) (fun _ _ _ h => h) (Or.inl ⟨by rfl, ?_⟩) ?_ ?_
                                      rotate_left
                                      · intro w'
                                        go_simp
                                        with_reducible rfl
                                      rotate_left
                                      · simp only [Act.put, List.setIfInBounds_toArray, List.set_cons_zero, List.set_cons_succ, i64_w, i32_w]
                                        rfl
                                      refine pure_ (i := 12) (N := some 57) (v := ?_) (a' := ?_) #[true, true, true, true, true, true, true, true, true, true, true, true, true, false, true, false, false, false] rfl rfl (any_of HT_.out (by kernel_rfl)) (fun _ _ _ h => h) (Or.inl ⟨by rfl, ?_⟩) ?_ ?_
                                      rotate_left
                                      · intro w'
                                        go_simp
                                        with_reducible rfl
                                      rotate_left
                                      · simp only [Act.put, List.setIfInBounds_toArray, List.set_cons_zero, List.set_cons_succ, i64_w, i32_w]
                                        rfl
                                      refine pure_ (i := 13) (N := some 58) (v := ?_) (a' := ?_) #[true, true, true, true, true, true, true, true, true, true, true, true, true, true, true, false, false, false] rfl rfl (any_of HT_.out (by kernel_rfl)) (fun _ _ _ h => h) (Or.inl ⟨by rfl, ?_⟩) ?_ ?_
                                      rotate_left
                                      · intro w'
                                        go_simp
                                        with_reducible rfl
                                      rotate_left
                                      · simp only [Act.put, List.setIfInBounds_toArray, List.set_cons_zero, List.set_cons_succ, i64_w, i32_w]
                                        rfl
                                      exact norm_ (by simp only [putAll, Act.put, List.setIfInBounds_toArray, List.set_cons_zero, List.set_cons_succ]) (hCont (.slice Ao47 t116.length co47, gb125) _ ⟨hHeld, (by (with_reducible repeat (first | apply Kd.R_alloc | apply Kd.R_drewN | apply Kd.R_drew)); exact Kd.R_mono HO118.out (fun _ hk => hk.2)), (by (with_reducible repeat (first | apply Kd.R_alloc | apply Kd.R_drewN | apply Kd.R_drew)); exact Kd.R_mono HO_5.out (fun _ hk => hk.2)), (by (with_reducible repeat (first | refine blk_drewN ?_ _ | refine blk_drew ?_ | refine blk_alloc ?_ _)); exact BK101.out), (by (with_reducible repeat (first | refine blk_drewN ?_ _ | refine blk_drew ?_ | refine blk_alloc ?_ _)); exact BK125.out), GW125.out, GE125.out, NB101_125.out, NB125_101.out, (by repeat (first | (with_reducible first | exact HB.out | apply below_alloc | apply pw_below_drewN | apply below_drew1 | refine below_set ?_ GE101.out | refine below_set ?_ GE125.out) | exact HB.out))⟩)
                                  rintro ⟨v117, gb125⟩ w49 ⟨hS_, h0_, h1_, h2_, h3_, h4_, h5_, h6_, h7_, h8_⟩
                                  have n0_ : Aside0 (Kd.R (Kd.int .u8) 5 w49 w.heap.size (fun k_ => some k_ ≠ (.slice Ao20 x5_1.length co20 : Value).ownBlock) v117 t116) := ⟨h0_⟩
                                  have n1_ : Aside0 (Kd.R (Kd.int .u8) 5 w49 w.heap.size (fun k_ => some k_ ≠ (v117 : Value).ownBlock) (.slice Ao20 x5_1.length co20) x5_1) := ⟨h1_⟩
                                  have n2_ : Aside0 (w49.heap[gb101]? = some (.cells #[.int .u16 a0_0, .int .u16 a0_1, .int .u16 a0_2, .int .u16 a0_3, .int .u16 a0_4, .int .u8 a0_5, .int .u8 a0_6, .int .u32 a0_7, .int .u32 a0_8, .bool a0_9] 34 (0, 0))) := ⟨h2_⟩
                                  have n3_ : Aside0 (w49.heap[gb125]? = some (.cells #[.int .u32 0, .int .u8 0, .int .u8 0, .int .u16 0] 28 (0, 0))) := ⟨h3_⟩
                                  have n4_ : Aside0 (w.heap.size ≤ gb125) := ⟨h4_⟩
                                  have n5_ : Aside0 (w.heap.size ≤ gb125) := ⟨h5_⟩
                                  have n6_ : Aside0 (gb101 ≠ gb125) := ⟨h6_⟩
                                  have n7_ : Aside0 (gb125 ≠ gb101) := ⟨h7_⟩
                                  have n8_ : Aside0 (Below w.heap.size w w49) := ⟨h8_⟩
                                  clear HO_5
                                  clear BK101
                                  clear HB
                                  clear h0_ h1_ h2_ h3_ h4_ h5_ h6_ h7_ h8_
                                  have HO118 := n0_
                                  have HO_5 := n1_
                                  have BK101 := n2_
                                  have BK125 := n3_
                                  have GW125 := n4_
                                  have GE125 := n5_
                                  have NB101_125 := n6_
                                  have NB125_101 := n7_
                                  have HB := n8_
                                  clear n0_ n1_ n2_ n3_ n4_ n5_ n6_ n7_ n8_
                                  have hHeld : w49.cell? ⟨gb101, 0, none⟩ = some (.int .u16 a0_0) ∧ w49.cell? ⟨gb101, 1, none⟩ = some (.int .u16 a0_1) ∧ w49.cell? ⟨gb101, 2, none⟩ = some (.int .u16 a0_2) ∧ w49.cell? ⟨gb101, 3, none⟩ = some (.int .u16 a0_3) ∧ w49.cell? ⟨gb101, 4, none⟩ = some (.int .u16 a0_4) ∧ w49.cell? ⟨gb101, 5, none⟩ = some (.int .u8 a0_5) ∧ w49.cell? ⟨gb101, 6, none⟩ = some (.int .u8 a0_6) ∧ w49.cell? ⟨gb101, 7, none⟩ = some (.int .u32 a0_7) ∧ w49.cell? ⟨gb101, 8, none⟩ = some (.int .u32 a0_8) ∧ w49.cell? ⟨gb101, 9, none⟩ = some (.bool a0_9) := hS_
                                  refine norm_ (a' := ?_) ?_ ?_
                                  rotate_left
                                  · simp only [putAll, Act.put, List.setIfInBounds_toArray, List.set_cons_zero, List.set_cons_succ]
                                    rfl
                                  refine one_ (i := 15) (N := none) #[true, true, true, true, true, true, true, true, true, true, true, true, true, true, true, true, false, false] rfl rfl (one_of HT_.out (by kernel_rfl)) (by decide) (fun K hK => ?_)
                                  have hs50 : w49.cell? ⟨gb125, 0, none⟩ = some (.int .u32 0) := (blk_cell BK125.out 0).trans rfl
                                  have hfs50 := blk_frozen BK125.out 0
                                  have hns50_0 := NB101_125.out
                                  have hms50_0 := NB125_101.out
                                  have hs51 : w49.cell? ⟨gb125, 1, none⟩ = some (.int .u8 0) := (blk_cell BK125.out 1).trans rfl
                                  have hfs51 := blk_frozen BK125.out 1
                                  have hns51_0 := NB101_125.out
                                  have hms51_0 := NB125_101.out
                                  have hs52 : w49.cell? ⟨gb125, 2, none⟩ = some (.int .u8 0) := (blk_cell BK125.out 2).trans rfl
                                  have hfs52 := blk_frozen BK125.out 2
                                  have hns52_0 := NB101_125.out
                                  have hms52_0 := NB125_101.out
                                  have hs53 : w49.cell? ⟨gb125, 3, none⟩ = some (.int .u16 0) := (blk_cell BK125.out 3).trans rfl
                                  have hfs53 := blk_frozen BK125.out 3
                                  have hns53_0 := NB101_125.out
                                  have hms53_0 := NB125_101.out
                                  refine skip_ (w1 := ?_) (by rfl) rfl ?_ ?_
                                  rotate_left
                                  · go_simp
                                    rfl
                                  refine hK.out _ _ ⟨((cell_far (p := ⟨gb125, _, none⟩) NB101_125.out _).trans (((cell_far (p := ⟨gb125, _, none⟩) NB101_125.out _).trans (((cell_far (p := ⟨gb125, _, none⟩) NB101_125.out _).trans (((cell_far (p := ⟨gb125, _, none⟩) NB101_125.out _).trans (hHeld.1)))))))), ((cell_far (p := ⟨gb125, _, none⟩) NB101_125.out _).trans (((cell_far (p := ⟨gb125, _, none⟩) NB101_125.out _).trans (((cell_far (p := ⟨gb125, _, none⟩) NB101_125.out _).trans (((cell_far (p := ⟨gb125, _, none⟩) NB101_125.out _).trans (hHeld.2.1)))))))), ((cell_far (p := ⟨gb125, _, none⟩) NB101_125.out _).trans (((cell_far (p := ⟨gb125, _, none⟩) NB101_125.out _).trans (((cell_far (p := ⟨gb125, _, none⟩) NB101_125.out _).trans (((cell_far (p := ⟨gb125, _, none⟩) NB101_125.out _).trans (hHeld.2.2.1)))))))), ((cell_far (p := ⟨gb125, _, none⟩) NB101_125.out _).trans (((cell_far (p := ⟨gb125, _, none⟩) NB101_125.out _).trans (((cell_far (p := ⟨gb125, _, none⟩) NB101_125.out _).trans (((cell_far (p := ⟨gb125, _, none⟩) NB101_125.out _).trans (hHeld.2.2.2.1)))))))), ((cell_far (p := ⟨gb125, _, none⟩) NB101_125.out _).trans (((cell_far (p := ⟨gb125, _, none⟩) NB101_125.out _).trans (((cell_far (p := ⟨gb125, _, none⟩) NB101_125.out _).trans (((cell_far (p := ⟨gb125, _, none⟩) NB101_125.out _).trans (hHeld.2.2.2.2.1)))))))), ((cell_far (p := ⟨gb125, _, none⟩) NB101_125.out _).trans (((cell_far (p := ⟨gb125, _, none⟩) NB101_125.out _).trans (((cell_far (p := ⟨gb125, _, none⟩) NB101_125.out _).trans (((cell_far (p := ⟨gb125, _, none⟩) NB101_125.out _).trans (hHeld.2.2.2.2.2.1)))))))), ((cell_far (p := ⟨gb125, _, none⟩) NB101_125.out _).trans (((cell_far (p := ⟨gb125, _, none⟩) NB101_125.out _).trans (((cell_far (p := ⟨gb125, _, none⟩) NB101_125.out _).trans (((cell_far (p := ⟨gb125, _, none⟩) NB101_125.out _).trans (hHeld.2.2.2.2.2.2.1)))))))), ((cell_far (p := ⟨gb125, _, none⟩) NB101_125.out _).trans (((cell_far (p := ⟨gb125, _, none⟩) NB101_125.out _).trans (((cell_far (p := ⟨gb125, _, none⟩) NB101_125.out _).trans (((cell_far (p := ⟨gb125, _, none⟩) NB101_125.out _).trans (hHeld.2.2.2.2.2.2.2.1)))))))), ((cell_far (p := ⟨gb125, _, none⟩) NB101_125.out _).trans (((cell_far (p := ⟨gb125, _, none⟩) NB101_125.out _).trans (((cell_far (p := ⟨gb125, _, none⟩) NB101_125.out _).trans (((cell_far (p := ⟨gb125, _, none⟩) NB101_125.out _).trans (hHeld.2.2.2.2.2.2.2.2.1)))))))), ((cell_far (p := ⟨gb125, _, none⟩) NB101_125.out _).trans (((cell_far (p := ⟨gb125, _, none⟩) NB101_125.out _).trans (((cell_far (p := ⟨gb125, _, none⟩) NB101_125.out _).trans (((cell_far (p := ⟨gb125, _, none⟩) NB101_125.out _).trans (hHeld.2.2.2.2.2.2.2.2.2))))))))⟩ (fun hHeld => ?_)
                                  clear hK K
                                  refine pure_ (i := 16) (N := some 11) (v := ?_) (a' := ?_) #[true, true, true, true, true, true, true, true, true, true, true, true, true, true, true, true, true, false] rfl rfl (any_of HT_.out (by kernel_rfl)) (fun _ _ _ h => h) (Or.inl ⟨by rfl, ?_⟩) ?_ ?_
                                  rotate_left
                                  · intro w'
                                    go_simp
                                    with_reducible rfl
                                  rotate_left
                                  · simp only [Act.put, List.setIfInBounds_toArray, List.set_cons_zero, List.set_cons_succ, i64_w, i32_w]
                                    rfl
                                  refine pure_ (i := 17) (N := some 12) (v := ?_) (a' := ?_) #[true, true, true, true, true, true, true, true, true, true, true, true, true, true, true, true, true, true] rfl rfl (any_of HT_.out (by kernel_rfl)) (fun _ _ _ h => h) (Or.inl ⟨by rfl, ?_⟩) ?_ ?_
                                  rotate_left
                                  · intro w'
                                    go_simp
                                    with_reducible rfl
                                  rotate_left
                                  · simp only [Act.put, List.setIfInBounds_toArray, List.set_cons_zero, List.set_cons_succ, i64_w, i32_w]
                                    rfl
                                  refine done_ (done_of HT_.out (by kernel_rfl)) ?_
                                  try go_wp2
                                  go_ret
                                  exact ⟨by first | rfl | (simp [errW_none, errW_some] <;> rfl) | (simp only [← hji24]; first | rfl | (simp [errW_none, errW_some] <;> rfl)) | (simp [*, errW_none, errW_some] <;> rfl), by repeat (first | (with_reducible first | exact HB.out | apply below_alloc | apply pw_below_drewN | apply below_drew1 | refine below_set ?_ GE101.out | refine below_set ?_ GE125.out) | exact HB.out)⟩
                              · replace c30 := Bool.eq_false_iff.mpr c30
                                subst c30
                                have H1 : (some false) = some r := by rw [if_neg (show ¬ (false = true) by decide)] at H; exact H
                                clear H
                                have H := H1
                                clear H1
                                obtain rfl := Option.some.inj H
                                have p111 : 0 ≤ (x40_2 : Int) := of_decide_eq_true (by first | (with_reducible assumption) | assumption)
                                have q111 : x40_2 < (l1.length : Int) := of_decide_eq_true (by first | (with_reducible assumption) | assumption)
                                obtain ⟨ad111, e111, hx111_0⟩ := Kd.at_int HR1.out x40_2 p111 q111
                                cases e111
                                replace hx111_0 := (HB.out.cell (World.block_lt_of_cell? w _ hx111_0)).trans hx111_0
                                replace p111 := eq_true p111
                                replace q111 := eq_true q111
                                try go_wp2
                                have n0_ := Aside0.mk (Kd.R_drew HO_5.out)
                                have n1_ := Aside0.mk (blk_drew BK101.out)
                                have n2_ := Aside0.mk (below_drew1 HB.out)
                                clear HO_5
                                clear BK101
                                clear HB
                                have HO_5 := n0_
                                have BK101 := n1_
                                have HB := n2_
                                clear n0_ n1_ n2_
                                have q55 : ((wrap64 ((ji24) + 11)) : Int) ≤ ((x5_1.length : Int) : Int) := of_decide_eq_true (by first | (with_reducible assumption) | assumption)
                                obtain ⟨i055, hi055, _, hsz55, _⟩ := info_parts info5
                                have hroom55 : x5_1.length ≤ co20 := (Kd.R_reads' HO_5.out).2.1
                                have hC55 : Kd.C (Kd.int .u8) _ Ao20 x5_1.length x5_1 := (Kd.R_reads' HO_5.out).2.2
                                have ql55 : ((ji24) : Int) ≤ ((wrap64 ((ji24) + 11)) : Int) := of_decide_eq_true (by first | (with_reducible assumption) | assumption)
                                have q055 : (0 : Int) ≤ ((ji24) : Int) := of_decide_eq_true (by first | (with_reducible assumption) | assumption)
                                have hcut55 := cut_mid (P := Tryd.prog) 24 5 .i64 .i64 Tryd.underlying24 hi055 1 hsz55 Ao20 x5_1.length co20 (ji24) (wrap64 ((ji24) + 11)) q055 ql55 q55 hroom55
                                have hr55 := Kd.C_mid (lo := ((ji24) : Int).toNat) (hi := ((wrap64 ((ji24) + 11)) : Int).toNat) (c := co20) hC55 (by omega) (by omega) hroom55
                                obtain ⟨A55, hA55⟩ : ∃ A1, A1 = (if co20 = ((ji24) : Int).toNat then Ao20 else (Ao20 : Option Addr).map (·.add (((ji24) : Int).toNat * 1))) := ⟨_, rfl⟩
                                obtain ⟨c55, hc55⟩ : ∃ c1, c1 = co20 - ((ji24) : Int).toNat := ⟨_, rfl⟩
                                have hy55 : y112.length = ((wrap64 ((ji24) + 11)) : Int).toNat - ((ji24) : Int).toNat := (by rw [Ny112.out, List.length_drop, List.length_take] <;> omega)
                                rw [show ((x5_1).take ((wrap64 ((ji24) + 11)) : Int).toNat).drop ((ji24) : Int).toNat = y112 from Ny112.out.symm] at hr55
                                replace hr55 : Kd.C (Kd.int .u8) _ A55 y112.length y112 := (by rw [hA55]; exact hr55)
                                rw [← hy55, ← hA55, ← hc55] at hcut55
                                have HR115 := Aside0.mk hr55
                                have HC115 := Aside0.mk (show y112.length ≤ c55 from by rw [hy55, hc55]; exact Nat.sub_le_sub_right (Nat.le_trans (by omega) hroom55) _)
                                clear hr55 hC55 hroom55 hi055 hsz55 hc55
                                have KY55 := Aside0.mk hy55
                                have KA55 := Aside0.mk hA55
                                clear hy55 hA55
                                have KL55 := Aside0.mk (show ((wrap64 ((ji24) + 11)) : Int).toNat ≤ x5_1.length from by omega)
                                have KM55 := Aside0.mk (show ((ji24) : Int).toNat ≤ ((wrap64 ((ji24) + 11)) : Int).toNat from by omega)
                                replace q55 := eq_true q55
                                refine start_ (n := 18) (S := fun w' => w'.cell? ⟨gb101, 0, none⟩ = some (.int .u16 a0_0) ∧ w'.cell? ⟨gb101, 1, none⟩ = some (.int .u16 a0_1) ∧ w'.cell? ⟨gb101, 2, none⟩ = some (.int .u16 a0_2) ∧ w'.cell? ⟨gb101, 3, none⟩ = some (.int .u16 a0_3) ∧ w'.cell? ⟨gb101, 4, none⟩ = some (.int .u16 a0_4) ∧ w'.cell? ⟨gb101, 5, none⟩ = some (.int .u8 a0_5) ∧ w'.cell? ⟨gb101, 6, none⟩ = some (.int .u8 a0_6) ∧ w'.cell? ⟨gb101, 7, none⟩ = some (.int .u32 a0_7) ∧ w'.cell? ⟨gb101, 8, none⟩ = some (.int .u32 a0_8) ∧ w'.cell? ⟨gb101, 9, none⟩ = some (.bool a0_9)) (ds := []) #[false, false, false, false, false, false, false, false, false, false, false, false, false, false, false, false, false, false] (by kernel_rfl) rfl rfl ⟨(blk_cell BK101.out 0).trans rfl, (blk_cell BK101.out 1).trans rfl, (blk_cell BK101.out 2).trans rfl, (blk_cell BK101.out 3).trans rfl, (blk_cell BK101.out 4).trans rfl, (blk_cell BK101.out 5).trans rfl, (blk_cell BK101.out 6).trans rfl, (blk_cell BK101.out 7).trans rfl, (blk_cell BK101.out 8).trans rfl, (blk_cell BK101.out 9).trans rfl⟩ (fun hHeld => ?_); refine with_tabW laws_FnPacketMarks.tab16 laws_FnPacketMarks.bits16 (fun HT_ HW_ => ?_)
                                generalize wr.drew = w54 at HO_5 BK101 HB HR115 hHeld ⊢
                                refine pure_ (i := 1) (N := some 47) (v := ?_) (a' := ?_) #[false, true, false, false, false, false, false, false, false, false, false, false, false, false, false, false, false, false] rfl rfl (any_of HT_.out (by kernel_rfl)) (fun _ _ _ h => h) (Or.inl ⟨by rfl, ?_⟩) ?_ ?_
                                rotate_left
                                · intro w'
                                  go_simp
                                  with_reducible rfl
                                rotate_left
                                · simp only [Act.put, List.setIfInBounds_toArray, List.set_cons_zero, List.set_cons_succ, i64_w, i32_w]
                                  rfl
                                refine pure_ (i := 2) (N := some 48) (v := ?_) (a' := ?_) #[false, true, true, false, false, false, false, false, false, false, false, false, false, false, false, false, false, false] rfl rfl (any_of HT_.out (by kernel_rfl)) (fun _ _ _ h => h) (Or.inl ⟨by rfl, ?_⟩) ?_ ?_
                                rotate_left
                                · intro w'
                                  go_simp
                                  with_reducible rfl
                                rotate_left
                                · simp only [Act.put, List.setIfInBounds_toArray, List.set_cons_zero, List.set_cons_succ, i64_w, i32_w]
                                  rfl
                                refine pure_ (i := 3) (N := some 49) (v := ?_) (a' := ?_) #[false, true, true, true, false, false, false, false, false, false, false, false, false, false, false, false, false, false] rfl rfl (any_of HT_.out (by kernel_rfl)) (fun _ _ _ h => h) (Or.inl ⟨by rfl, ?_⟩) ?_ ?_
                                rotate_left
                                · intro w'
                                  go_simp
                                  with_reducible rfl
                                rotate_left
                                · simp only [Act.put, List.setIfInBounds_toArray, List.set_cons_zero, List.set_cons_succ, i64_w, i32_w]
                                  rfl
                                refine pure_ (i := 4) (N := some 50) (v := ?_) (a' := ?_) #[false, true, true, true, true, false, false, false, false, false, false, false, false, false, false, false, false, false] rfl rfl (any_of HT_.out (by kernel_rfl)) (fun _ _ _ h => h) (Or.inl ⟨by rfl, ?_⟩) ?_ ?_
                                rotate_left
                                · intro w'
                                  go_simp
                                  with_reducible rfl
                                rotate_left
                                · simp only [Act.put, List.setIfInBounds_toArray, List.set_cons_zero, List.set_cons_succ, i64_w, i32_w]
                                  rfl
                                refine pure_ (i := 5) (N := some 51) (v := ?_) (a' := ?_) #[false, true, true, true, true, true, false, false, false, false, false, false, false, false, false, false, false, false] rfl rfl (any_of HT_.out (by kernel_rfl)) (fun _ _ _ h => h) (Or.inl ⟨by rfl, ?_⟩) ?_ ?_
                                rotate_left
                                · intro w'
                                  go_simp
                                  with_reducible rfl
                                rotate_left
                                · simp only [Act.put, List.setIfInBounds_toArray, List.set_cons_zero, List.set_cons_succ, i64_w, i32_w]
                                  rfl
                                refine pure_ (i := 6) (N := some 52) (v := ?_) (a' := ?_) #[false, true, true, true, true, true, true, false, false, false, false, false, false, false, false, false, false, false] rfl rfl (any_of HT_.out (by kernel_rfl)) (fun _ _ _ h => h) (Or.inl ⟨by rfl, ?_⟩) ?_ ?_
                                rotate_left
                                · intro w'
                                  go_simp
                                  with_reducible rfl
                                rotate_left
                                · simp only [Act.put, List.setIfInBounds_toArray, List.set_cons_zero, List.set_cons_succ, i64_w, i32_w]
                                  rfl
                                refine pure_ (i := 7) (N := some 53) (v := ?_) (a' := ?_) #[false, true, true, true, true, true, true, true, false, false, false, false, false, false, false, false, false, false] rfl rfl (any_of HT_.out (by kernel_rfl)) (fun _ _ _ h => h) (Or.inl ⟨by rfl, ?_⟩) ?_ ?_
                                rotate_left
                                · intro w'
                                  go_simp
                                  with_reducible rfl
                                rotate_left
                                · simp only [Act.put, List.setIfInBounds_toArray, List.set_cons_zero, List.set_cons_succ, i64_w, i32_w]
                                  rfl
                                refine take_ (i := 0) (N := some 46) (v := ?_) (a' := ?_) #[true, true, true, true, true, true, true, true, false, false, false, false, false, false, false, false, false, false] rfl rfl (take_ofW HT_.out HW_.out (by kernel_rfl)) (fun _ _ _ h => h) (Or.inl ⟨by rfl, ?_⟩) hHeld ?_ ?_
                                rotate_left
                                · rintro w' ⟨s0, s1, s2, s3, s4, s5, s6, s7, s8, s9⟩
                                  go_simp
                                  with_reducible rfl
                                rotate_left
                                · simp only [Act.put, List.setIfInBounds_toArray, List.set_cons_zero, List.set_cons_succ, i64_w, i32_w]
                                  rfl
                                refine join_ (σ := Value × Nat) 3 #[true, true, true, true, true, true, true, true, true, true, true, true, true, true, true, false, false, false] (fun s_ => [(54, s_.1), (55, .tuple #[.agg #[.int .u32 t119, .int .u8 t120, .int .u8 t121, .int .u16 t122], .int .u8 t123, .bool false]), (10, .pointer (some ⟨s_.2, 0, none⟩)), (45, .tuple #[.agg #[.int .u32 t119, .int .u8 t120, .int .u8 t121, .int .u16 t122], .int .u8 t123, .bool false]), (56, .agg #[.int .u32 t119, .int .u8 t120, .int .u8 t121, .int .u16 t122]), (57, .int .u8 t123), (58, .bool false)]) (fun s_ w' => (w'.cell? ⟨gb101, 0, none⟩ = some (.int .u16 a0_0) ∧ w'.cell? ⟨gb101, 1, none⟩ = some (.int .u16 a0_1) ∧ w'.cell? ⟨gb101, 2, none⟩ = some (.int .u16 a0_2) ∧ w'.cell? ⟨gb101, 3, none⟩ = some (.int .u16 a0_3) ∧ w'.cell? ⟨gb101, 4, none⟩ = some (.int .u16 a0_4) ∧ w'.cell? ⟨gb101, 5, none⟩ = some (.int .u8 a0_5) ∧ w'.cell? ⟨gb101, 6, none⟩ = some (.int .u8 a0_6) ∧ w'.cell? ⟨gb101, 7, none⟩ = some (.int .u32 a0_7) ∧ w'.cell? ⟨gb101, 8, none⟩ = some (.int .u32 a0_8) ∧ w'.cell? ⟨gb101, 9, none⟩ = some (.bool a0_9)) ∧ (Kd.R (Kd.int .u8) 5 w' w.heap.size (fun k_ => some k_ ≠ (.slice Ao20 x5_1.length co20 : Value).ownBlock) s_.1 t116) ∧ (Kd.R (Kd.int .u8) 5 w' w.heap.size (fun k_ => some k_ ≠ (s_.1 : Value).ownBlock) (.slice Ao20 x5_1.length co20) x5_1) ∧ (w'.heap[gb101]? = some (.cells #[.int .u16 a0_0, .int .u16 a0_1, .int .u16 a0_2, .int .u16 a0_3, .int .u16 a0_4, .int .u8 a0_5, .int .u8 a0_6, .int .u32 a0_7, .int .u32 a0_8, .bool a0_9] 34 (0, 0))) ∧ (w'.heap[s_.2]? = some (.cells #[.int .u32 0, .int .u8 0, .int .u8 0, .int .u16 0] 28 (0, 0))) ∧ (w.heap.size ≤ s_.2) ∧ (w.heap.size ≤ s_.2) ∧ (gb101 ≠ s_.2) ∧ (s_.2 ≠ gb101) ∧ (Below w.heap.size w w')) ?_ ?_
                                rotate_left
                                · intro hCont
                                  refine two_ (i := 8) (j := 14) (Ni := some 54) (Nj := some 10) #[true, true, true, true, true, true, true, true, true, false, false, false, false, false, false, false, false, false] #[true, true, true, true, true, true, true, true, false, false, false, false, false, false, true, false, false, false] rfl rfl rfl rfl (two_of HT_.out (by kernel_rfl)) (by decide) (by decide) (fun K hK => ?_) (fun K hK => ?_)
                                  · skip
                                    refine goes_ Tryd.func12 (by kernel_rfl) rfl #[.slice A55 y112.length c55] (by rfl) rfl rfl (by (try simp only [List.map_toArray, List.map_cons, List.map_nil]); first | done | rfl | (simp only [List.length_drop, List.length_take]; rfl)) ?_
                                    with_reducible refine (bytes_Clone.calls _ _ y112 t116 _ ?side1 ?side2 A28.out).mono ?_
                                    (case side1 => repeat (first | exact (by repeat (first | (with_reducible exact HR115.out) | (with_reducible refine Kd.C_alloc ?_ _) | (with_reducible refine Kd.C_drewN ?_ _) | (with_reducible refine Kd.C_drew ?_) | exact HR115.out)) | (with_reducible refine Kd.C_alloc ?_ _) | (with_reducible refine Kd.C_drewN ?_ _) | (with_reducible refine Kd.C_drew ?_)))
                                    (case side2 => exact HC115.out)
                                    rintro e w56 ⟨v117, rfl, ho0, hb⟩
                                    refine ⟨_, rfl, ?_⟩
                                    have n0_ := Aside0.mk (Kd.R_elder' (by (with_reducible repeat (first | apply Kd.R_alloc | apply Kd.R_drewN | apply Kd.R_drew)); exact HO_5.out) (Kd.R_base ho0) hb)
                                    have n1_ := Aside0.mk (Kd.R_lower (Kd.R_new' ho0 (Kd.R_lt (by (with_reducible repeat (first | apply Kd.R_alloc | apply Kd.R_drewN | apply Kd.R_drew)); exact HO_5.out))) (below_size (by repeat (first | (with_reducible first | exact HB.out | apply below_alloc | apply pw_below_drewN | apply below_drew1 | refine below_set ?_ GE101.out) | exact HB.out))))
                                    have n2_ := Aside0.mk (blk_below (g := gb101) (o := .cells #[.int .u16 a0_0, .int .u16 a0_1, .int .u16 a0_2, .int .u16 a0_3, .int .u16 a0_4, .int .u8 a0_5, .int .u8 a0_6, .int .u32 a0_7, .int .u32 a0_8, .bool a0_9] 34 (0, 0)) (by (with_reducible repeat (first | refine blk_drewN ?_ _ | refine blk_drew ?_ | refine blk_alloc ?_ _)); exact BK101.out) hb)
                                    have n3_ := Aside0.mk (Kd.C_below (by repeat (first | (with_reducible exact HR115.out) | (with_reducible refine Kd.C_alloc ?_ _) | (with_reducible refine Kd.C_drewN ?_ _) | (with_reducible refine Kd.C_drew ?_) | exact HR115.out)) hb)
                                    have n4_ := Aside0.mk (below_step (by repeat (first | (with_reducible first | exact HB.out | apply below_alloc | apply pw_below_drewN | apply below_drew1 | refine below_set ?_ GE101.out) | exact HB.out)) hb)
                                    clear HO_5
                                    clear BK101
                                    clear HR115
                                    clear HB
                                    have HO_5 := n0_
                                    have HO118 := n1_
                                    have BK101 := n2_
                                    have HR115 := n3_
                                    have HB := n4_
                                    clear n0_ n1_ n2_ n3_ n4_
                                    (try clear hb)
                                    (try clear hb2)
                                    (try clear hk)
                                    (try clear hi)
                                    (try clear ho0)
                                    obtain ⟨Ao57, co57, eo57⟩ := Kd.R_slice HO118.out
                                    (first | subst eo57 | (injection eo57 with f1_ f2_ f3_; have f4_ := f1_.symm; have f5_ := f3_.symm; clear f1_ f2_ f3_; subst f4_; subst f5_))
                                    refine hK.out _ _ ⟨(blk_cell BK101.out 0).trans rfl, (blk_cell BK101.out 1).trans rfl, (blk_cell BK101.out 2).trans rfl, (blk_cell BK101.out 3).trans rfl, (blk_cell BK101.out 4).trans rfl, (blk_cell BK101.out 5).trans rfl, (blk_cell BK101.out 6).trans rfl, (blk_cell BK101.out 7).trans rfl, (blk_cell BK101.out 8).trans rfl, (blk_cell BK101.out 9).trans rfl⟩ (fun hHeld => ?_)
                                    clear hK K
                                    refine norm_ (a' := ?_) ?_ ?_
                                    rotate_left
                                    · show Act.put _ (some 54) _ = _
                                      simp only [Act.put, List.setIfInBounds_toArray, List.set_cons_zero, List.set_cons_succ, i64_w, i32_w]
                                      rfl
                                    refine two_ (i := 9) (j := 14) (Ni := some 55) (Nj := some 10) #[true, true, true, true, true, true, true, true, true, true, false, false, false, false, false, false, false, false] #[true, true, true, true, true, true, true, true, true, false, false, false, false, false, true, false, false, false] rfl rfl rfl rfl (two_of HT_.out (by kernel_rfl)) (by decide) (by decide) (fun K hK => ?_) (fun K hK => ?_)
                                    · skip
                                      refine goes_ Tryd.func22 (by kernel_rfl) rfl #[.agg #[.int .u16 a0_0, .int .u16 a0_1, .int .u16 a0_2, .int .u16 a0_3, .int .u16 a0_4, .int .u8 a0_5, .int .u8 a0_6, .int .u32 a0_7, .int .u32 a0_8, .bool a0_9], .slice Ao57 t116.length co57] (by rfl) rfl rfl (by (try simp only [List.map_toArray, List.map_cons, List.map_nil]); first | done | rfl | (simp only [List.length_drop, List.length_take]; rfl)) ?_
                                      with_reducible refine (impl_MarkerRead.calls a0_0 a0_1 a0_2 a0_3 a0_4 a0_5 a0_6 a0_7 a0_8 a0_9 _ _ t116 t119 t120 t121 t122 t123 false _ ?side1 ?side2 A29.out).mono ?_
                                      (case side1 => repeat (first | exact (Kd.R_reads' HO118.out).2.2 | (with_reducible refine Kd.C_alloc ?_ _) | (with_reducible refine Kd.C_drewN ?_ _) | (with_reducible refine Kd.C_drew ?_)))
                                      (case side2 => exact (Kd.R_reads' HO118.out).2.1)
                                      rintro e w58 ⟨rfl, hb⟩
                                      refine ⟨_, rfl, ?_⟩
                                      have n0_ := Aside0.mk (Kd.R_below (by (with_reducible repeat (first | apply Kd.R_alloc | apply Kd.R_drewN | apply Kd.R_drew)); exact HO_5.out) hb)
                                      have n1_ := Aside0.mk (Kd.R_below (by (with_reducible repeat (first | apply Kd.R_alloc | apply Kd.R_drewN | apply Kd.R_drew)); exact HO118.out) hb)
                                      have n2_ := Aside0.mk (blk_below (g := gb101) (o := .cells #[.int .u16 a0_0, .int .u16 a0_1, .int .u16 a0_2, .int .u16 a0_3, .int .u16 a0_4, .int .u8 a0_5, .int .u8 a0_6, .int .u32 a0_7, .int .u32 a0_8, .bool a0_9] 34 (0, 0)) (by (with_reducible repeat (first | refine blk_drewN ?_ _ | refine blk_drew ?_ | refine blk_alloc ?_ _)); exact BK101.out) hb)
                                      have n3_ := Aside0.mk (Kd.C_below (by repeat (first | (with_reducible exact HR115.out) | (with_reducible refine Kd.C_alloc ?_ _) | (with_reducible refine Kd.C_drewN ?_ _) | (with_reducible refine Kd.C_drew ?_) | exact HR115.out)) hb)
                                      have n4_ := Aside0.mk (below_step (by repeat (first | (with_reducible first | exact HB.out | apply below_alloc | apply pw_below_drewN | apply below_drew1 | refine below_set ?_ GE101.out) | exact HB.out)) hb)
                                      clear HO_5
                                      clear HO118
                                      clear BK101
                                      clear HR115
                                      clear HB
                                      have HO_5 := n0_
                                      have HO118 := n1_
                                      have BK101 := n2_
                                      have HR115 := n3_
                                      have HB := n4_
                                      clear n0_ n1_ n2_ n3_ n4_
                                      (try clear hb)
                                      (try clear hb2)
                                      (try clear hk)
                                      (try clear hi)
                                      refine hK.out _ _ ⟨(blk_cell BK101.out 0).trans rfl, (blk_cell BK101.out 1).trans rfl, (blk_cell BK101.out 2).trans rfl, (blk_cell BK101.out 3).trans rfl, (blk_cell BK101.out 4).trans rfl, (blk_cell BK101.out 5).trans rfl, (blk_cell BK101.out 6).trans rfl, (blk_cell BK101.out 7).trans rfl, (blk_cell BK101.out 8).trans rfl, (blk_cell BK101.out 9).trans rfl⟩ (fun hHeld => ?_)
                                      clear hK K
                                      refine norm_ (a' := ?_) ?_ ?_
                                      rotate_left
                                      · show Act.put _ (some 55) _ = _
                                        simp only [Act.put, List.setIfInBounds_toArray, List.set_cons_zero, List.set_cons_succ, i64_w, i32_w]
                                        rfl
                                      refine pure_ (i := 10) (N := some 45) (v := ?_) (a' := ?_) #[true, true, true, true, true, true, true, true, true, true, true, false, false, false, false, false, false, false] rfl rfl (any_of HT_.out (by kernel_rfl)) (fun _ _ _ h => h) (Or.inl ⟨by rfl, ?_⟩) ?_ ?_
                                      rotate_left
                                      · intro w'
                                        go_simp
                                        with_reducible rfl
                                      rotate_left
                                      · simp only [Act.put, List.setIfInBounds_toArray, List.set_cons_zero, List.set_cons_succ, i64_w, i32_w]
                                        rfl
                                      refine pure_ (i := 11) (N := some 56) (v := ?_) (a' := ?_) #[true, true, true, true, true, true, true, true, true, true, true, true, false, false, false, false, false, false] rfl rfl (any_of HT_.out (by kernel_rfl)) (fun _ _ _ h => h) (Or.inl ⟨by rfl, ?_⟩) ?_ ?_
                                      rotate_left
                                      · intro w'
                                        go_simp
                                        with_reducible rfl
                                      rotate_left
                                      · simp only [Act.put, List.setIfInBounds_toArray, List.set_cons_zero, List.set_cons_succ, i64_w, i32_w]
                                        rfl
                                      refine pure_ (i := 12) (N := some 57) (v := ?_) (a' := ?_) #[true, true, true, true, true, true, true, true, true, true, true, true, true, false, false, false, false, false] rfl rfl (any_of HT_.out (by kernel_rfl)) (fun _ _ _ h => h) (Or.inl ⟨by rfl, ?_⟩) ?_ ?_
                                      rotate_left
                                      · intro w'
                                        go_simp
                                        with_reducible rfl
                                      rotate_left
                                      · simp only [Act.put, List.setIfInBounds_toArray, List.set_cons_zero, List.set_cons_succ, i64_w, i32_w]
                                        rfl
                                      refine pure_ (i := 13) (N := some 58) (v := ?_) (a' := ?_) #[true, true, true, true, true, true, true, true, true, true, true, true, true, true, false, false, false, false] rfl rfl (any_of HT_.out (by kernel_rfl)) (fun _ _ _ h => h) (Or.inl ⟨by rfl, ?_⟩) ?_ ?_
                                      rotate_left
                                      · intro w'
                                        go_simp
                                        with_reducible rfl
                                      rotate_left
                                      · simp only [Act.put, List.setIfInBounds_toArray, List.set_cons_zero, List.set_cons_succ, i64_w, i32_w]
                                        rfl
                                      refine one_ (i := 14) (N := some 10) #[true, true, true, true, true, true, true, true, true, true, true, true, true, true, true, false, false, false] rfl rfl (one_of HT_.out (by kernel_rfl)) (by decide) (fun K hK => ?_)
                                      refine box_step ?hg (N := 10) ?hd (cs := #[.int .u32 0, .int .u8 0, .int .u8 0, .int .u16 0]) (t := 28) ?hr ?_; (case hd => rfl); (case hg => rfl); (case hr => first | (go_simp; done) | (go_simp; rfl))
                                      intro gb125 hg w59 hbox hb
                                      have n0_ := Aside0.mk (Kd.R_below (by (with_reducible repeat (first | apply Kd.R_alloc | apply Kd.R_drewN | apply Kd.R_drew)); exact HO_5.out) hb)
                                      have n1_ := Aside0.mk (Kd.R_below (by (with_reducible repeat (first | apply Kd.R_alloc | apply Kd.R_drewN | apply Kd.R_drew)); exact HO118.out) hb)
                                      have n2_ := Aside0.mk (blk_below (g := gb101) (o := .cells #[.int .u16 a0_0, .int .u16 a0_1, .int .u16 a0_2, .int .u16 a0_3, .int .u16 a0_4, .int .u8 a0_5, .int .u8 a0_6, .int .u32 a0_7, .int .u32 a0_8, .bool a0_9] 34 (0, 0)) (by (with_reducible repeat (first | refine blk_drewN ?_ _ | refine blk_drew ?_ | refine blk_alloc ?_ _)); exact BK101.out) hb)
                                      have n3_ := Aside0.mk (Kd.C_below (by repeat (first | (with_reducible exact HR115.out) | (with_reducible refine Kd.C_alloc ?_ _) | (with_reducible refine Kd.C_drewN ?_ _) | (with_reducible refine Kd.C_drew ?_) | exact HR115.out)) hb)
                                      have n4_ := Aside0.mk (below_step (by repeat (first | (with_reducible first | exact HB.out | apply below_alloc | apply pw_below_drewN | apply below_drew1 | refine below_set ?_ GE101.out) | exact HB.out)) hb)
                                      have n5_ := Aside0.mk (hbox)
                                      have n6_ := Aside0.mk ((by rw [hg]; exact (below_size (by repeat (first | (with_reducible first | exact HB.out | apply below_alloc | apply pw_below_drewN | apply below_drew1 | refine below_set ?_ GE101.out) | exact HB.out))) : w.heap.size ≤ gb125))
                                      have n7_ := Aside0.mk ((by rw [hg]; exact (below_size (by repeat (first | (with_reducible first | exact HB.out | apply below_alloc | apply pw_below_drewN | apply below_drew1 | refine below_set ?_ GE101.out) | exact HB.out))) : w.heap.size ≤ gb125))
                                      have n8_ := Aside0.mk ((by rw [hg]; exact Nat.ne_of_lt (blk_lt (g := gb101) (o := .cells #[.int .u16 a0_0, .int .u16 a0_1, .int .u16 a0_2, .int .u16 a0_3, .int .u16 a0_4, .int .u8 a0_5, .int .u8 a0_6, .int .u32 a0_7, .int .u32 a0_8, .bool a0_9] 34 (0, 0)) (by (with_reducible repeat (first | refine blk_drewN ?_ _ | refine blk_drew ?_ | refine blk_alloc ?_ _)); exact BK101.out)) : gb101 ≠ gb125))
                                      have n9_ := Aside0.mk ((by rw [hg]; exact Nat.ne_of_gt (blk_lt (g := gb101) (o := .cells #[.int .u16 a0_0, .int .u16 a0_1, .int .u16 a0_2, .int .u16 a0_3, .int .u16 a0_4, .int .u8 a0_5, .int .u8 a0_6, .int .u32 a0_7, .int .u32 a0_8, .bool a0_9] 34 (0, 0)) (by (with_reducible repeat (first | refine blk_drewN ?_ _ | refine blk_drew ?_ | refine blk_alloc ?_ _)); exact BK101.out)) : gb125 ≠ gb101))
                                      clear HO_5
                                      clear HO118
                                      clear BK101
                                      clear HR115
                                      clear HB
                                      have HO_5 := n0_
                                      have HO118 := n1_
                                      have BK101 := n2_
                                      have HR115 := n3_
                                      have HB := n4_
                                      have BK125 := n5_
                                      have GW125 := n6_
                                      have GE125 := n7_
                                      have NB101_125 := n8_
                                      have NB125_101 := n9_
                                      clear n0_ n1_ n2_ n3_ n4_ n5_ n6_ n7_ n8_ n9_
                                      clear hb hbox hg
                                      refine hK.out _ _ ⟨(blk_cell BK101.out 0).trans rfl, (blk_cell BK101.out 1).trans rfl, (blk_cell BK101.out 2).trans rfl, (blk_cell BK101.out 3).trans rfl, (blk_cell BK101.out 4).trans rfl, (blk_cell BK101.out 5).trans rfl, (blk_cell BK101.out 6).trans rfl, (blk_cell BK101.out 7).trans rfl, (blk_cell BK101.out 8).trans rfl, (blk_cell BK101.out 9).trans rfl⟩ (fun hHeld => ?_)
                                      clear hK K
                                      refine norm_ (a' := ?_) ?_ ?_
                                      rotate_left
                                      · show Act.put _ (some 10) _ = _
                                        simp only [Act.put, List.setIfInBounds_toArray, List.set_cons_zero, List.set_cons_succ, i64_w, i32_w]
                                        rfl
                                      exact norm_ (by simp only [putAll, Act.put, List.setIfInBounds_toArray, List.set_cons_zero, List.set_cons_succ]) (hCont (.slice Ao57 t116.length co57, gb125) _ ⟨hHeld, (by (with_reducible repeat (first | apply Kd.R_alloc | apply Kd.R_drewN | apply Kd.R_drew)); exact Kd.R_mono HO118.out (fun _ hk => hk.2)), (by (with_reducible repeat (first | apply Kd.R_alloc | apply Kd.R_drewN | apply Kd.R_drew)); exact Kd.R_mono HO_5.out (fun _ hk => hk.2)), (by (with_reducible repeat (first | refine blk_drewN ?_ _ | refine blk_drew ?_ | refine blk_alloc ?_ _)); exact BK101.out), (by (with_reducible repeat (first | refine blk_drewN ?_ _ | refine blk_drew ?_ | refine blk_alloc ?_ _)); exact BK125.out), GW125.out, GE125.out, NB101_125.out, NB125_101.out, (by repeat (first | (with_reducible first | exact HB.out | apply below_alloc | apply pw_below_drewN | apply below_drew1 | refine below_set ?_ GE101.out | refine below_set ?_ GE125.out) | exact HB.out))⟩)
                                    · skip
                                      refine box_step ?hg (N := 10) ?hd (cs := #[.int .u32 0, .int .u8 0, .int .u8 0, .int .u16 0]) (t := 28) ?hr ?_; (case hd => rfl); (case hg => rfl); (case hr => first | (go_simp; done) | (go_simp; rfl))
                                      intro gb125 hg w57 hbox hb
                                      have n0_ := Aside0.mk (Kd.R_below (by (with_reducible repeat (first | apply Kd.R_alloc | apply Kd.R_drewN | apply Kd.R_drew)); exact HO_5.out) hb)
                                      have n1_ := Aside0.mk (Kd.R_below (by (with_reducible repeat (first | apply Kd.R_alloc | apply Kd.R_drewN | apply Kd.R_drew)); exact HO118.out) hb)
                                      have n2_ := Aside0.mk (blk_below (g := gb101) (o := .cells #[.int .u16 a0_0, .int .u16 a0_1, .int .u16 a0_2, .int .u16 a0_3, .int .u16 a0_4, .int .u8 a0_5, .int .u8 a0_6, .int .u32 a0_7, .int .u32 a0_8, .bool a0_9] 34 (0, 0)) (by (with_reducible repeat (first | refine blk_drewN ?_ _ | refine blk_drew ?_ | refine blk_alloc ?_ _)); exact BK101.out) hb)
                                      have n3_ := Aside0.mk (Kd.C_below (by repeat (first | (with_reducible exact HR115.out) | (with_reducible refine Kd.C_alloc ?_ _) | (with_reducible refine Kd.C_drewN ?_ _) | (with_reducible refine Kd.C_drew ?_) | exact HR115.out)) hb)
                                      have n4_ := Aside0.mk (below_step (by repeat (first | (with_reducible first | exact HB.out | apply below_alloc | apply pw_below_drewN | apply below_drew1 | refine below_set ?_ GE101.out) | exact HB.out)) hb)
                                      have n5_ := Aside0.mk (hbox)
                                      have n6_ := Aside0.mk ((by rw [hg]; exact (below_size (by repeat (first | (with_reducible first | exact HB.out | apply below_alloc | apply pw_below_drewN | apply below_drew1 | refine below_set ?_ GE101.out) | exact HB.out))) : w.heap.size ≤ gb125))
                                      have n7_ := Aside0.mk ((by rw [hg]; exact (below_size (by repeat (first | (with_reducible first | exact HB.out | apply below_alloc | apply pw_below_drewN | apply below_drew1 | refine below_set ?_ GE101.out) | exact HB.out))) : w.heap.size ≤ gb125))
                                      have n8_ := Aside0.mk ((by rw [hg]; exact Nat.ne_of_lt (blk_lt (g := gb101) (o := .cells #[.int .u16 a0_0, .int .u16 a0_1, .int .u16 a0_2, .int .u16 a0_3, .int .u16 a0_4, .int .u8 a0_5, .int .u8 a0_6, .int .u32 a0_7, .int .u32 a0_8, .bool a0_9] 34 (0, 0)) (by (with_reducible repeat (first | refine blk_drewN ?_ _ | refine blk_drew ?_ | refine blk_alloc ?_ _)); exact BK101.out)) : gb101 ≠ gb125))
                                      have n9_ := Aside0.mk ((by rw [hg]; exact Nat.ne_of_gt (blk_lt (g := gb101) (o := .cells #[.int .u16 a0_0, .int .u16 a0_1, .int .u16 a0_2, .int .u16 a0_3, .int .u16 a0_4, .int .u8 a0_5, .int .u8 a0_6, .int .u32 a0_7, .int .u32 a0_8, .bool a0_9] 34 (0, 0)) (by (with_reducible repeat (first | refine blk_drewN ?_ _ | refine blk_drew ?_ | refine blk_alloc ?_ _)); exact BK101.out)) : gb125 ≠ gb101))
                                      clear HO_5
                                      clear HO118
                                      clear BK101
                                      clear HR115
                                      clear HB
                                      have HO_5 := n0_
                                      have HO118 := n1_
                                      have BK101 := n2_
                                      have HR115 := n3_
                                      have HB := n4_
                                      have BK125 := n5_
                                      have GW125 := n6_
                                      have GE125 := n7_
                                      have NB101_125 := n8_
                                      have NB125_101 := n9_
                                      clear n0_ n1_ n2_ n3_ n4_ n5_ n6_ n7_ n8_ n9_
                                      clear hb hbox hg
                                      obtain ⟨Ao58, co58, eo58⟩ := Kd.R_slice HO118.out
                                      (first | subst eo58 | (injection eo58 with f1_ f2_ f3_; have f4_ := f1_.symm; have f5_ := f3_.symm; clear f1_ f2_ f3_; subst f4_; subst f5_))
                                      refine hK.out _ _ ⟨(blk_cell BK101.out 0).trans rfl, (blk_cell BK101.out 1).trans rfl, (blk_cell BK101.out 2).trans rfl, (blk_cell BK101.out 3).trans rfl, (blk_cell BK101.out 4).trans rfl, (blk_cell BK101.out 5).trans rfl, (blk_cell BK101.out 6).trans rfl, (blk_cell BK101.out 7).trans rfl, (blk_cell BK101.out 8).trans rfl, (blk_cell BK101.out 9).trans rfl⟩ (fun hHeld => ?_)
                                      clear hK K
                                      refine norm_ (a' := ?_) ?_ ?_
                                      rotate_left
                                      · show Act.put _ (some 10) _ = _
                                        simp only [Act.put, List.setIfInBounds_toArray, List.set_cons_zero, List.set_cons_succ, i64_w, i32_w]
                                        rfl
                                      refine one_ (i := 9) (N := some 55) #[true, true, true, true, true, true, true, true, true, true, false, false, false, false, true, false, false, false] rfl rfl (one_of HT_.out (by kernel_rfl)) (by decide) (fun K hK => ?_)
                                      refine goes_ Tryd.func22 (by kernel_rfl) rfl #[.agg #[.int .u16 a0_0, .int .u16 a0_1, .int .u16 a0_2, .int .u16 a0_3, .int .u16 a0_4, .int .u8 a0_5, .int .u8 a0_6, .int .u32 a0_7, .int .u32 a0_8, .bool a0_9], .slice Ao58 t116.length co58] (by rfl) rfl rfl (by (try simp only [List.map_toArray, List.map_cons, List.map_nil]); first | done | rfl | (simp only [List.length_drop, List.length_take]; rfl)) ?_
                                      with_reducible refine (impl_MarkerRead.calls a0_0 a0_1 a0_2 a0_3 a0_4 a0_5 a0_6 a0_7 a0_8 a0_9 _ _ t116 t119 t120 t121 t122 t123 false _ ?side1 ?side2 A29.out).mono ?_
                                      (case side1 => repeat (first | exact (Kd.R_reads' HO118.out).2.2 | (with_reducible refine Kd.C_alloc ?_ _) | (with_reducible refine Kd.C_drewN ?_ _) | (with_reducible refine Kd.C_drew ?_)))
                                      (case side2 => exact (Kd.R_reads' HO118.out).2.1)
                                      rintro e w59 ⟨rfl, hb⟩
                                      refine ⟨_, rfl, ?_⟩
                                      have n0_ := Aside0.mk (Kd.R_below (by (with_reducible repeat (first | apply Kd.R_alloc | apply Kd.R_drewN | apply Kd.R_drew)); exact HO_5.out) hb)
                                      have n1_ := Aside0.mk (Kd.R_below (by (with_reducible repeat (first | apply Kd.R_alloc | apply Kd.R_drewN | apply Kd.R_drew)); exact HO118.out) hb)
                                      have n2_ := Aside0.mk (blk_below (g := gb101) (o := .cells #[.int .u16 a0_0, .int .u16 a0_1, .int .u16 a0_2, .int .u16 a0_3, .int .u16 a0_4, .int .u8 a0_5, .int .u8 a0_6, .int .u32 a0_7, .int .u32 a0_8, .bool a0_9] 34 (0, 0)) (by (with_reducible repeat (first | refine blk_drewN ?_ _ | refine blk_drew ?_ | refine blk_alloc ?_ _)); exact BK101.out) hb)
                                      have n3_ := Aside0.mk (Kd.C_below (by repeat (first | (with_reducible exact HR115.out) | (with_reducible refine Kd.C_alloc ?_ _) | (with_reducible refine Kd.C_drewN ?_ _) | (with_reducible refine Kd.C_drew ?_) | exact HR115.out)) hb)
                                      have n4_ := Aside0.mk (blk_below (g := gb125) (o := .cells #[.int .u32 0, .int .u8 0, .int .u8 0, .int .u16 0] 28 (0, 0)) (by (with_reducible repeat (first | refine blk_drewN ?_ _ | refine blk_drew ?_ | refine blk_alloc ?_ _)); exact BK125.out) hb)
                                      have n5_ := Aside0.mk (below_step (by repeat (first | (with_reducible first | exact HB.out | apply below_alloc | apply pw_below_drewN | apply below_drew1 | refine below_set ?_ GE101.out | refine below_set ?_ GE125.out) | exact HB.out)) hb)
                                      clear HO_5
                                      clear HO118
                                      clear BK101
                                      clear HR115
                                      clear BK125
                                      clear HB
                                      have HO_5 := n0_
                                      have HO118 := n1_
                                      have BK101 := n2_
                                      have HR115 := n3_
                                      have BK125 := n4_
                                      have HB := n5_
                                      clear n0_ n1_ n2_ n3_ n4_ n5_
                                      (try clear hb)
                                      (try clear hb2)
                                      (try clear hk)
                                      (try clear hi)
                                      refine hK.out _ _ ⟨(blk_cell BK101.out 0).trans rfl, (blk_cell BK101.out 1).trans rfl, (blk_cell BK101.out 2).trans rfl, (blk_cell BK101.out 3).trans rfl, (blk_cell BK101.out 4).trans rfl, (blk_cell BK101.out 5).trans rfl, (blk_cell BK101.out 6).trans rfl, (blk_cell BK101.out 7).trans rfl, (blk_cell BK101.out 8).trans rfl, (blk_cell BK101.out 9).trans rfl⟩ (fun hHeld => ?_)
                                      clear hK K
                                      refine norm_ (a' := ?_) ?_ ?_
                                      rotate_left
                                      · show Act.put _ (some 55) _ = _
                                        simp only [Act.put, List.setIfInBounds_toArray, List.set_cons_zero, List.set_cons_succ, i64_w, i32_w]
                                        rfl
                                      refine pure_ (i := 10) (N := some 45) (v := ?_) (a' := ?_) #[true, true, true, true, true, true, true, true, true, true, true, false, false, false, true, false, false, false] rfl rfl (any_of HT_.out (by kernel_rfl)) (fun _ _ _ h => h) (Or.inl ⟨by rfl, ?_⟩) ?_ ?_
                                      rotate_left
                                      · intro w'
                                        go_simp
                                        with_reducible rfl
                                      rotate_left
                                      · simp only [Act.put, List.setIfInBounds_toArray, List.set_cons_zero, List.set_cons_succ, i64_w, i32_w]
                                        rfl
                                      refine pure_ (i := 11) (N := some 56) (v := ?_) (a' := ?_) #[true, true, true, true, true, true, true, true, true, true, true, true, false, false, true, false, false, false] rfl rfl (any_of HT_.out (by kernel_rfl)) (fun _ _ _ h => h) (Or.inl ⟨by rfl, ?_⟩) ?_ ?_
                                      rotate_left
                                      · intro w'
                                        go_simp
                                        with_reducible rfl
                                      rotate_left
                                      · simp only [Act.put, List.setIfInBounds_toArray, List.set_cons_zero, List.set_cons_succ, i64_w, i32_w]
                                        rfl
                                      refine pure_ (i := 12) (N := some 57) (v := ?_) (a' := ?_) #[true, true, true, true, true, true, true, true, true, true, true, true, true, false, true, false, false, false] rfl rfl (any_of HT_.out (by kernel_rfl)) (fun _ _ _ h => h) (Or.inl ⟨by rfl, ?_⟩) ?_ ?_
                                      rotate_left
                                      · intro w'
                                        go_simp
                                        with_reducible rfl
                                      rotate_left
                                      · simp only [Act.put, List.setIfInBounds_toArray, List.set_cons_zero, List.set_cons_succ, i64_w, i32_w]
                                        rfl
                                      refine pure_ (i := 13) (N := some 58) (v := ?_) (a' := ?_) #[true, true, true, true, true, true, true, true, true, true, true, true, true, true, true, false, false, false] rfl rfl (any_of HT_.out (by kernel_rfl)) (fun _ _ _ h => h) (Or.inl ⟨by rfl, ?_⟩) ?_ ?_
                                      rotate_left
                                      · intro w'
                                        go_simp
                                        with_reducible rfl
                                      rotate_left
                                      · simp only [Act.put, List.setIfInBounds_toArray, List.set_cons_zero, List.set_cons_succ, i64_w, i32_w]
                                        rfl
                                      exact norm_ (by simp only [putAll, Act.put, List.setIfInBounds_toArray, List.set_cons_zero, List.set_cons_succ]) (hCont (.slice Ao58 t116.length co58, gb125) _ ⟨hHeld, (by (with_reducible repeat (first | apply Kd.R_alloc | apply Kd.R_drewN | apply Kd.R_drew)); exact Kd.R_mono HO118.out (fun _ hk => hk.2)), (by (with_reducible repeat (first | apply Kd.R_alloc | apply Kd.R_drewN | apply Kd.R_drew)); exact Kd.R_mono HO_5.out (fun _ hk => hk.2)), (by (with_reducible repeat (first | refine blk_drewN ?_ _ | refine blk_drew ?_ | refine blk_alloc ?_ _)); exact BK101.out), (by (with_reducible repeat (first | refine blk_drewN ?_ _ | refine blk_drew ?_ | refine blk_alloc ?_ _)); exact BK125.out), GW125.out, GE125.out, NB101_125.out, NB125_101.out, (by repeat (first | (with_reducible first | exact HB.out | apply below_alloc | apply pw_below_drewN | apply below_drew1 | refine below_set ?_ GE101.out | refine below_set ?_ GE125.out) | exact HB.out))⟩)
                                  · skip
                                    refine box_step ?hg (N := 10) ?hd (cs := #[.int .u32 0, .int .u8 0, .int .u8 0, .int .u16 0]) (t := 28) ?hr ?_; (case hd => rfl); (case hg => rfl); (case hr => first | (go_simp; done) | (go_simp; rfl))
                                    intro gb125 hg w56 hbox hb
                                    have n0_ := Aside0.mk (Kd.R_below (by (with_reducible repeat (first | apply Kd.R_alloc | apply Kd.R_drewN | apply Kd.R_drew)); exact HO_5.out) hb)
                                    have n1_ := Aside0.mk (blk_below (g := gb101) (o := .cells #[.int .u16 a0_0, .int .u16 a0_1, .int .u16 a0_2, .int .u16 a0_3, .int .u16 a0_4, .int .u8 a0_5, .int .u8 a0_6, .int .u32 a0_7, .int .u32 a0_8, .bool a0_9] 34 (0, 0)) (by (with_reducible repeat (first | refine blk_drewN ?_ _ | refine blk_drew ?_ | refine blk_alloc ?_ _)); exact BK101.out) hb)
                                    have n2_ := Aside0.mk (Kd.C_below (by repeat (first | (with_reducible exact HR115.out) | (with_reducible refine Kd.C_alloc ?_ _) | (with_reducible refine Kd.C_drewN ?_ _) | (with_reducible refine Kd.C_drew ?_) | exact HR115.out)) hb)
                                    have n3_ := Aside0.mk (below_step (by repeat (first | (with_reducible first | exact HB.out | apply below_alloc | apply pw_below_drewN | apply below_drew1 | refine below_set ?_ GE101.out) | exact HB.out)) hb)
                                    have n4_ := Aside0.mk (hbox)
                                    have n5_ := Aside0.mk ((by rw [hg]; exact (below_size (by repeat (first | (with_reducible first | exact HB.out | apply below_alloc | apply pw_below_drewN | apply below_drew1 | refine below_set ?_ GE101.out) | exact HB.out))) : w.heap.size ≤ gb125))
                                    have n6_ := Aside0.mk ((by rw [hg]; exact (below_size (by repeat (first | (with_reducible first | exact HB.out | apply below_alloc | apply pw_below_drewN | apply below_drew1 | refine below_set ?_ GE101.out) | exact HB.out))) : w.heap.size ≤ gb125))
                                    have n7_ := Aside0.mk ((by rw [hg]; exact Nat.ne_of_lt (blk_lt (g := gb101) (o := .cells #[.int .u16 a0_0, .int .u16 a0_1, .int .u16 a0_2, .int .u16 a0_3, .int .u16 a0_4, .int .u8 a0_5, .int .u8 a0_6, .int .u32 a0_7, .int .u32 a0_8, .bool a0_9] 34 (0, 0)) (by (with_reducible repeat (first | refine blk_drewN ?_ _ | refine blk_drew ?_ | refine blk_alloc ?_ _)); exact BK101.out)) : gb101 ≠ gb125))
                                    have n8_ := Aside0.mk ((by rw [hg]; exact Nat.ne_of_gt (blk_lt (g := gb101) (o := .cells #[.int .u16 a0_0, .int .u16 a0_1, .int .u16 a0_2, .int .u16 a0_3, .int .u16 a0_4, .int .u8 a0_5, .int .u8 a0_6, .int .u32 a0_7, .int .u32 a0_8, .bool a0_9] 34 (0, 0)) (by (with_reducible repeat (first | refine blk_drewN ?_ _ | refine blk_drew ?_ | refine blk_alloc ?_ _)); exact BK101.out)) : gb125 ≠ gb101))
                                    clear HO_5
                                    clear BK101
                                    clear HR115
                                    clear HB
                                    have HO_5 := n0_
                                    have BK101 := n1_
                                    have HR115 := n2_
                                    have HB := n3_
                                    have BK125 := n4_
                                    have GW125 := n5_
                                    have GE125 := n6_
                                    have NB101_125 := n7_
                                    have NB125_101 := n8_
                                    clear n0_ n1_ n2_ n3_ n4_ n5_ n6_ n7_ n8_
                                    clear hb hbox hg
                                    refine hK.out _ _ ⟨(blk_cell BK101.out 0).trans rfl, (blk_cell BK101.out 1).trans rfl, (blk_cell BK101.out 2).trans rfl, (blk_cell BK101.out 3).trans rfl, (blk_cell BK101.out 4).trans rfl, (blk_cell BK101.out 5).trans rfl, (blk_cell BK101.out 6).trans rfl, (blk_cell BK101.out 7).trans rfl, (blk_cell BK101.out 8).trans rfl, (blk_cell BK101.out 9).trans rfl⟩ (fun hHeld => ?_)
                                    clear hK K
                                    refine norm_ (a' := ?_) ?_ ?_
                                    rotate_left
                                    · show Act.put _ (some 10) _ = _
                                      simp only [Act.put, List.setIfInBounds_toArray, List.set_cons_zero, List.set_cons_succ, i64_w, i32_w]
                                      rfl
                                    refine one_ (i := 8) (N := some 54) #[true, true, true, true, true, true, true, true, true, false, false, false, false, false, true, false, false, false] rfl rfl (one_of HT_.out (by kernel_rfl)) (by decide) (fun K hK => ?_)
                                    refine goes_ Tryd.func12 (by kernel_rfl) rfl #[.slice A55 y112.length c55] (by rfl) rfl rfl (by (try simp only [List.map_toArray, List.map_cons, List.map_nil]); first | done | rfl | (simp only [List.length_drop, List.length_take]; rfl)) ?_
                                    with_reducible refine (bytes_Clone.calls _ _ y112 t116 _ ?side1 ?side2 A28.out).mono ?_
                                    (case side1 => repeat (first | exact (by repeat (first | (with_reducible exact HR115.out) | (with_reducible refine Kd.C_alloc ?_ _) | (with_reducible refine Kd.C_drewN ?_ _) | (with_reducible refine Kd.C_drew ?_) | exact HR115.out)) | (with_reducible refine Kd.C_alloc ?_ _) | (with_reducible refine Kd.C_drewN ?_ _) | (with_reducible refine Kd.C_drew ?_)))
                                    (case side2 => exact HC115.out)
                                    rintro e w57 ⟨v117, rfl, ho0, hb⟩
                                    refine ⟨_, rfl, ?_⟩
                                    have n0_ := Aside0.mk (Kd.R_elder' (by (with_reducible repeat (first | apply Kd.R_alloc | apply Kd.R_drewN | apply Kd.R_drew)); exact HO_5.out) (Kd.R_base ho0) hb)
                                    have n1_ := Aside0.mk (Kd.R_lower (Kd.R_new' ho0 (Kd.R_lt (by (with_reducible repeat (first | apply Kd.R_alloc | apply Kd.R_drewN | apply Kd.R_drew)); exact HO_5.out))) (below_size (by repeat (first | (with_reducible first | exact HB.out | apply below_alloc | apply pw_below_drewN | apply below_drew1 | refine below_set ?_ GE101.out | refine below_set ?_ GE125.out) | exact HB.out))))
                                    have n2_ := Aside0.mk (blk_below (g := gb101) (o := .cells #[.int .u16 a0_0, .int .u16 a0_1, .int .u16 a0_2, .int .u16 a0_3, .int .u16 a0_4, .int .u8 a0_5, .int .u8 a0_6, .int .u32 a0_7, .int .u32 a0_8, .bool a0_9] 34 (0, 0)) (by (with_reducible repeat (first | refine blk_drewN ?_ _ | refine blk_drew ?_ | refine blk_alloc ?_ _)); exact BK101.out) hb)
                                    have n3_ := Aside0.mk (Kd.C_below (by repeat (first | (with_reducible exact HR115.out) | (with_reducible refine Kd.C_alloc ?_ _) | (with_reducible refine Kd.C_drewN ?_ _) | (with_reducible refine Kd.C_drew ?_) | exact HR115.out)) hb)
                                    have n4_ := Aside0.mk (blk_below (g := gb125) (o := .cells #[.int .u32 0, .int .u8 0, .int .u8 0, .int .u16 0] 28 (0, 0)) (by (with_reducible repeat (first | refine blk_drewN ?_ _ | refine blk_drew ?_ | refine blk_alloc ?_ _)); exact BK125.out) hb)
                                    have n5_ := Aside0.mk (below_step (by repeat (first | (with_reducible first | exact HB.out | apply below_alloc | apply pw_below_drewN | apply below_drew1 | refine below_set ?_ GE101.out | refine below_set ?_ GE125.out) | exact HB.out)) hb)
                                    clear HO_5
                                    clear BK101
                                    clear HR115
                                    clear BK125
                                    clear HB
                                    have HO_5 := n0_
                                    have HO118 := n1_
                                    have BK101 := n2_
                                    have HR115 := n3_
                                    have BK125 := n4_
                                    have HB := n5_
                                    clear n0_ n1_ n2_ n3_ n4_ n5_
                                    (try clear hb)
                                    (try clear hb2)
                                    (try clear hk)
                                    (try clear hi)
                                    (try clear ho0)
                                    obtain ⟨Ao58, co58, eo58⟩ := Kd.R_slice HO118.out
                                    (first | subst eo58 | (injection eo58 with f1_ f2_ f3_; have f4_ := f1_.symm; have f5_ := f3_.symm; clear f1_ f2_ f3_; subst f4_; subst f5_))
                                    refine hK.out _ _ ⟨(blk_cell BK101.out 0).trans rfl, (blk_cell BK101.out 1).trans rfl, (blk_cell BK101.out 2).trans rfl, (blk_cell BK101.out 3).trans rfl, (blk_cell BK101.out 4).trans rfl, (blk_cell BK101.out 5).trans rfl, (blk_cell BK101.out 6).trans rfl, (blk_cell BK101.out 7).trans rfl, (blk_cell BK101.out 8).trans rfl, (blk_cell BK101.out 9).trans rfl⟩ (fun hHeld => ?_)
                                    clear hK K
                                    refine norm_ (a' := ?_) ?_ ?_
                                    rotate_left
                                    · show Act.put _ (some 54) _ = _
                                      simp only [Act.put, List.setIfInBounds_toArray, List.set_cons_zero, List.set_cons_succ, i64_w, i32_w]
                                      rfl
                                    refine one_ (i := 9) (N := some 55) #[true, true, true, true, true, true, true, true, true, true, false, false, false, false, true, false, false, false] rfl rfl (one_of HT_.out (by kernel_rfl)) (by decide) (fun K hK => ?_)
                                    refine goes_ Tryd.func22 (by kernel_rfl) rfl #[.agg #[.int .u16 a0_0, .int .u16 a0_1, .int .u16 a0_2, .int .u16 a0_3, .int .u16 a0_4, .int .u8 a0_5, .int .u8 a0_6, .int .u32 a0_7, .int .u32 a0_8, .bool a0_9], .slice Ao58 t116.length co58] (by rfl) rfl rfl (by (try simp only [List.map_toArray, List.map_cons, List.map_nil]); first | done | rfl | (simp only [List.length_drop, List.length_take]; rfl)) ?_
                                    with_reducible refine (impl_MarkerRead.calls a0_0 a0_1 a0_2 a0_3 a0_4 a0_5 a0_6 a0_7 a0_8 a0_9 _ _ t116 t119 t120 t121 t122 t123 false _ ?side1 ?side2 A29.out).mono ?_
                                    (case side1 => repeat (first | exact (Kd.R_reads' HO118.out).2.2 | (with_reducible refine Kd.C_alloc ?_ _) | (with_reducible refine Kd.C_drewN ?_ _) | (with_reducible refine Kd.C_drew ?_)))
                                    (case side2 => exact (Kd.R_reads' HO118.out).2.1)
                                    rintro e w59 ⟨rfl, hb⟩
                                    refine ⟨_, rfl, ?_⟩
                                    have n0_ := Aside0.mk (Kd.R_below (by (with_reducible repeat (first | apply Kd.R_alloc | apply Kd.R_drewN | apply Kd.R_drew)); exact HO_5.out) hb)
                                    have n1_ := Aside0.mk (Kd.R_below (by (with_reducible repeat (first | apply Kd.R_alloc | apply Kd.R_drewN | apply Kd.R_drew)); exact HO118.out) hb)
                                    have n2_ := Aside0.mk (blk_below (g := gb101) (o := .cells #[.int .u16 a0_0, .int .u16 a0_1, .int .u16 a0_2, .int .u16 a0_3, .int .u16 a0_4, .int .u8 a0_5, .int .u8 a0_6, .int .u32 a0_7, .int .u32 a0_8, .bool a0_9] 34 (0, 0)) (by (with_reducible repeat (first | refine blk_drewN ?_ _ | refine blk_drew ?_ | refine blk_alloc ?_ _)); exact BK101.out) hb)
                                    have n3_ := Aside0.mk (Kd.C_below (by repeat (first | (with_reducible exact HR115.out) | (with_reducible refine Kd.C_alloc ?_ _) | (with_reducible refine Kd.C_drewN ?_ _) | (with_reducible refine Kd.C_drew ?_) | exact HR115.out)) hb)
                                    have n4_ := Aside0.mk (blk_below (g := gb125) (o := .cells #[.int .u32 0, .int .u8 0, .int .u8 0, .int .u16 0] 28 (0, 0)) (by (with_reducible repeat (first | refine blk_drewN ?_ _ | refine blk_drew ?_ | refine blk_alloc ?_ _)); exact BK125.out) hb)
                                    have n5_ := Aside0.mk (below_step (by repeat (first | (with_reducible first | exact HB.out | apply below_alloc | apply pw_below_drewN | apply below_drew1 | refine below_set ?_ GE101.out | refine below_set ?_ GE125.out) | exact HB.out)) hb)
                                    clear HO_5
                                    clear HO118
                                    clear BK101
                                    clear HR115
                                    clear BK125
                                    clear HB
                                    have HO_5 := n0_
                                    have HO118 := n1_
                                    have BK101 := n2_
                                    have HR115 := n3_
                                    have BK125 := n4_
                                    have HB := n5_
                                    clear n0_ n1_ n2_ n3_ n4_ n5_
                                    (try clear hb)
                                    (try clear hb2)
                                    (try clear hk)
                                    (try clear hi)
                                    refine hK.out _ _ ⟨(blk_cell BK101.out 0).trans rfl, (blk_cell BK101.out 1).trans rfl, (blk_cell BK101.out 2).trans rfl, (blk_cell BK101.out 3).trans rfl, (blk_cell BK101.out 4).trans rfl, (blk_cell BK101.out 5).trans rfl, (blk_cell BK101.out 6).trans rfl, (blk_cell BK101.out 7).trans rfl, (blk_cell BK101.out 8).trans rfl, (blk_cell BK101.out 9).trans rfl⟩ (fun hHeld => ?_)
                                    clear hK K
                                    refine norm_ (a' := ?_) ?_ ?_
                                    rotate_left
                                    · show Act.put _ (some 55) _ = _
                                      simp only [Act.put, List.setIfInBounds_toArray, List.set_cons_zero, List.set_cons_succ, i64_w, i32_w]
                                      rfl
                                    refine pure_ (i := 10) (N := some 45) (v := ?_) (a' := ?_) #[true, true, true, true, true, true, true, true, true, true, true, false, false, false, true, false, false, false] rfl rfl (any_of HT_.out (by kernel_rfl)) (fun _ _ _ h => h) (Or.inl ⟨by rfl, ?_⟩) ?_ ?_
                                    rotate_left
                                    · intro w'
                                      go_simp
                                      with_reducible rfl
                                    rotate_left
                                    · simp only [Act.put, List.setIfInBounds_toArray, List.set_cons_zero, List.set_cons_succ, i64_w, i32_w]
                                      rfl
                                    refine pure_ (i := 11) (N := some 56) (v := ?_) (a' := ?_) #[true, true, true, true, true, true, true, true, true, true, true, true, false, false, true, false, false, false] rfl rfl (any_of HT_.out (by kernel_rfl)) (fun _ _ _ h => h) (Or.inl ⟨by rfl, ?_⟩) ?_ ?_
                                    rotate_left
                                    · intro w'
                                      go_simp
                                      with_reducible rfl
                                    rotate_left
                                    · simp only [Act.put, List.setIfInBounds_toArray, List.set_cons_zero, List.set_cons_succ, i64_w, i32_w]
                                      rfl
                                    refine pure_ (i := 12) (N := some 57) (v := ?_) (a' := ?_) #[true, true, true, true, true, true, true, true, true, true, true, true, true, false, true, false, false, false] rfl rfl (any_of HT_.out (by kernel_rfl)) (fun _ _ _ h => h) (Or.inl ⟨by rfl, ?_⟩) ?_ ?_
                                    rotate_left
                                    · intro w'
                                      go_simp
                                      with_reducible rfl
                                    rotate_left
                                    · simp only [Act.put, List.setIfInBounds_toArray, List.set_cons_zero, List.set_cons_succ, i64_w, i32_w]
                                      rfl
                                    refine pure_ (i := 13) (N := some 58) (v := ?_) (a' := ?_) #[true, true, true, true, true, true, true, true, true, true, true, true, true, true, true, false, false, false] rfl rfl (any_of HT_.out (by kernel_rfl)) (fun _ _ _ h => h) (Or.inl ⟨by rfl, ?_⟩) ?_ ?_
                                    rotate_left
                                    · intro w'
                                      go_simp
                                      with_reducible rfl
                                    rotate_left
                                    · simp only [Act.put, List.setIfInBounds_toArray, List.set_cons_zero, List.set_cons_succ, i64_w, i32_w]
                                      rfl
                                    exact norm_ (by simp only [putAll, Act.put, List.setIfInBounds_toArray, List.set_cons_zero, List.set_cons_succ]) (hCont (.slice Ao58 t116.length co58, gb125) _ ⟨hHeld, (by (with_reducible repeat (first | apply Kd.R_alloc | apply Kd.R_drewN | apply Kd.R_drew)); exact Kd.R_mono HO118.out (fun _ hk => hk.2)), (by (with_reducible repeat (first | apply Kd.R_alloc | apply Kd.R_drewN | apply Kd.R_drew)); exact Kd.R_mono HO_5.out (fun _ hk => hk.2)), (by (with_reducible repeat (first | refine blk_drewN ?_ _ | refine blk_drew ?_ | refine blk_alloc ?_ _)); exact BK101.out), (by (with_reducible repeat (first | refine blk_drewN ?_ _ | refine blk_drew ?_ | refine blk_alloc ?_ _)); exact BK125.out), GW125.out, GE125.out, NB101_125.out, NB125_101.out, (by repeat (first | (with_reducible first | exact HB.out | apply below_alloc | apply pw_below_drewN | apply below_drew1 | refine below_set ?_ GE101.out | refine below_set ?_ GE125.out) | exact HB.out))⟩)
                                rintro ⟨v117, gb125⟩ w60 ⟨hS_, h0_, h1_, h2_, h3_, h4_, h5_, h6_, h7_, h8_⟩
                                have n0_ : Aside0 (Kd.R (Kd.int .u8) 5 w60 w.heap.size (fun k_ => some k_ ≠ (.slice Ao20 x5_1.length co20 : Value).ownBlock) v117 t116) := ⟨h0_⟩
                                have n1_ : Aside0 (Kd.R (Kd.int .u8) 5 w60 w.heap.size (fun k_ => some k_ ≠ (v117 : Value).ownBlock) (.slice Ao20 x5_1.length co20) x5_1) := ⟨h1_⟩
                                have n2_ : Aside0 (w60.heap[gb101]? = some (.cells #[.int .u16 a0_0, .int .u16 a0_1, .int .u16 a0_2, .int .u16 a0_3, .int .u16 a0_4, .int .u8 a0_5, .int .u8 a0_6, .int .u32 a0_7, .int .u32 a0_8, .bool a0_9] 34 (0, 0))) := ⟨h2_⟩
                                have n3_ : Aside0 (w60.heap[gb125]? = some (.cells #[.int .u32 0, .int .u8 0, .int .u8 0, .int .u16 0] 28 (0, 0))) := ⟨h3_⟩
                                have n4_ : Aside0 (w.heap.size ≤ gb125) := ⟨h4_⟩
                                have n5_ : Aside0 (w.heap.size ≤ gb125) := ⟨h5_⟩
                                have n6_ : Aside0 (gb101 ≠ gb125) := ⟨h6_⟩
                                have n7_ : Aside0 (gb125 ≠ gb101) := ⟨h7_⟩
                                have n8_ : Aside0 (Below w.heap.size w w60) := ⟨h8_⟩
                                clear HO_5
                                clear BK101
                                clear HB
                                clear h0_ h1_ h2_ h3_ h4_ h5_ h6_ h7_ h8_
                                have HO118 := n0_
                                have HO_5 := n1_
                                have BK101 := n2_
                                have BK125 := n3_
                                have GW125 := n4_
                                have GE125 := n5_
                                have NB101_125 := n6_
                                have NB125_101 := n7_
                                have HB := n8_
                                clear n0_ n1_ n2_ n3_ n4_ n5_ n6_ n7_ n8_
                                have hHeld : w60.cell? ⟨gb101, 0, none⟩ = some (.int .u16 a0_0) ∧ w60.cell? ⟨gb101, 1, none⟩ = some (.int .u16 a0_1) ∧ w60.cell? ⟨gb101, 2, none⟩ = some (.int .u16 a0_2) ∧ w60.cell? ⟨gb101, 3, none⟩ = some (.int .u16 a0_3) ∧ w60.cell? ⟨gb101, 4, none⟩ = some (.int .u16 a0_4) ∧ w60.cell? ⟨gb101, 5, none⟩ = some (.int .u8 a0_5) ∧ w60.cell? ⟨gb101, 6, none⟩ = some (.int .u8 a0_6) ∧ w60.cell? ⟨gb101, 7, none⟩ = some (.int .u32 a0_7) ∧ w60.cell? ⟨gb101, 8, none⟩ = some (.int .u32 a0_8) ∧ w60.cell? ⟨gb101, 9, none⟩ = some (.bool a0_9) := hS_
                                refine norm_ (a' := ?_) ?_ ?_
                                rotate_left
                                · simp only [putAll, Act.put, List.setIfInBounds_toArray, List.set_cons_zero, List.set_cons_succ]
                                  rfl
                                refine one_ (i := 15) (N := none) #[true, true, true, true, true, true, true, true, true, true, true, true, true, true, true, true, false, false] rfl rfl (one_of HT_.out (by kernel_rfl)) (by decide) (fun K hK => ?_)
                                have hs61 : w60.cell? ⟨gb125, 0, none⟩ = some (.int .u32 0) := (blk_cell BK125.out 0).trans rfl
                                have hfs61 := blk_frozen BK125.out 0
                                have hns61_0 := NB101_125.out
                                have hms61_0 := NB125_101.out
                                have hs62 : w60.cell? ⟨gb125, 1, none⟩ = some (.int .u8 0) := (blk_cell BK125.out 1).trans rfl
                                have hfs62 := blk_frozen BK125.out 1
                                have hns62_0 := NB101_125.out
                                have hms62_0 := NB125_101.out
                                have hs63 : w60.cell? ⟨gb125, 2, none⟩ = some (.int .u8 0) := (blk_cell BK125.out 2).trans rfl
                                have hfs63 := blk_frozen BK125.out 2
                                have hns63_0 := NB101_125.out
                                have hms63_0 := NB125_101.out
                                have hs64 : w60.cell? ⟨gb125, 3, none⟩ = some (.int .u16 0) := (blk_cell BK125.out 3).trans rfl
                                have hfs64 := blk_frozen BK125.out 3
                                have hns64_0 := NB101_125.out
                                have hms64_0 := NB125_101.out
                                refine skip_ (w1 := ?_) (by rfl) rfl ?_ ?_
                                rotate_left
                                · go_simp
                                  rfl
                                refine hK.out _ _ ⟨((cell_far (p := ⟨gb125, _, none⟩) NB101_125.out _).trans (((cell_far (p := ⟨gb125, _, none⟩) NB101_125.out _).trans (((cell_far (p := ⟨gb125, _, none⟩) NB101_125.out _).trans (((cell_far (p := ⟨gb125, _, none⟩) NB101_125.out _).trans (hHeld.1)))))))), ((cell_far (p := ⟨gb125, _, none⟩) NB101_125.out _).trans (((cell_far (p := ⟨gb125, _, none⟩) NB101_125.out _).trans (((cell_far (p := ⟨gb125, _, none⟩) NB101_125.out _).trans (((cell_far (p := ⟨gb125, _, none⟩) NB101_125.out _).trans (hHeld.2.1)))))))), ((cell_far (p := ⟨gb125, _, none⟩) NB101_125.out _).trans (((cell_far (p := ⟨gb125, _, none⟩) NB101_125.out _).trans (((cell_far (p := ⟨gb125, _, none⟩) NB101_125.out _).trans (((cell_far (p := ⟨gb125, _, none⟩) NB101_125.out _).trans (hHeld.2.2.1)))))))), ((cell_far (p := ⟨gb125, _, none⟩) NB101_125.out _).trans (((cell_far (p := ⟨gb125, _, none⟩) NB101_125.out _).trans (((cell_far (p := ⟨gb125, _, none⟩) NB101_125.out _).trans (((cell_far (p := ⟨gb125, _, none⟩) NB101_125.out _).trans (hHeld.2.2.2.1)))))))), ((cell_far (p := ⟨gb125, _, none⟩) NB101_125.out _).trans (((cell_far (p := ⟨gb125, _, none⟩) NB101_125.out _).trans (((cell_far (p := ⟨gb125, _, none⟩) NB101_125.out _).trans (((cell_far (p := ⟨gb125, _, none⟩) NB101_125.out _).trans (hHeld.2.2.2.2.1)))))))), ((cell_far (p := ⟨gb125, _, none⟩) NB101_125.out _).trans (((cell_far (p := ⟨gb125, _, none⟩) NB101_125.out _).trans (((cell_far (p := ⟨gb125, _, none⟩) NB101_125.out _).trans (((cell_far (p := ⟨gb125, _, none⟩) NB101_125.out _).trans (hHeld.2.2.2.2.2.1)))))))), ((cell_far (p := ⟨gb125, _, none⟩) NB101_125.out _).trans (((cell_far (p := ⟨gb125, _, none⟩) NB101_125.out _).trans (((cell_far (p := ⟨gb125, _, none⟩) NB101_125.out _).trans (((cell_far (p := ⟨gb125, _, none⟩) NB101_125.out _).trans (hHeld.2.2.2.2.2.2.1)))))))), ((cell_far (p := ⟨gb125, _, none⟩) NB101_125.out _).trans (((cell_far (p := ⟨gb125, _, none⟩) NB101_125.out _).trans (((cell_far (p := ⟨gb125, _, none⟩) NB101_125.out _).trans (((cell_far (p := ⟨gb125, _, none⟩) NB101_125.out _).trans (hHeld.2.2.2.2.2.2.2.1)))))))), ((cell_far (p := ⟨gb125, _, none⟩) NB101_125.out _).trans (((cell_far (p := ⟨gb125, _, none⟩) NB101_125.out _).trans (((cell_far (p := ⟨gb125, _, none⟩) NB101_125.out _).trans (((cell_far (p := ⟨gb125, _, none⟩) NB101_125.out _).trans (hHeld.2.2.2.2.2.2.2.2.1)))))))), ((cell_far (p := ⟨gb125, _, none⟩) NB101_125.out _).trans (((cell_far (p := ⟨gb125, _, none⟩) NB101_125.out _).trans (((cell_far (p := ⟨gb125, _, none⟩) NB101_125.out _).trans (((cell_far (p := ⟨gb125, _, none⟩) NB101_125.out _).trans (hHeld.2.2.2.2.2.2.2.2.2))))))))⟩ (fun hHeld => ?_)
                                clear hK K
                                refine pure_ (i := 16) (N := some 11) (v := ?_) (a' := ?_) #[true, true, true, true, true, true, true, true, true, true, true, true, true, true, true, true, true, false] rfl rfl (any_of HT_.out (by kernel_rfl)) (fun _ _ _ h => h) (Or.inl ⟨by rfl, ?_⟩) ?_ ?_
                                rotate_left
                                · intro w'
                                  go_simp
                                  with_reducible rfl
                                rotate_left
                                · simp only [Act.put, List.setIfInBounds_toArray, List.set_cons_zero, List.set_cons_succ, i64_w, i32_w]
                                  rfl
                                refine pure_ (i := 17) (N := some 12) (v := ?_) (a' := ?_) #[true, true, true, true, true, true, true, true, true, true, true, true, true, true, true, true, true, true] rfl rfl (any_of HT_.out (by kernel_rfl)) (fun _ _ _ h => h) (Or.inl ⟨by rfl, ?_⟩) ?_ ?_
                                rotate_left
                                · intro w'
                                  go_simp
                                  with_reducible rfl
                                rotate_left
                                · simp only [Act.put, List.setIfInBounds_toArray, List.set_cons_zero, List.set_cons_succ, i64_w, i32_w]
                                  rfl
                                refine done_ (done_of HT_.out (by kernel_rfl)) ?_
                                try go_wp2
                                go_ret
                                exact ⟨by first | rfl | (simp [errW_none, errW_some] <;> rfl) | (simp only [← hji24]; first | rfl | (simp [errW_none, errW_some] <;> rfl)) | (simp [*, errW_none, errW_some] <;> rfl), by repeat (first | (with_reducible first | exact HB.out | apply below_alloc | apply pw_below_drewN | apply below_drew1 | refine below_set ?_ GE101.out | refine below_set ?_ GE125.out) | exact HB.out)⟩
                            · rw [if_neg c27] at H
                              exact absurd H (by simp)
                          · rw [if_neg c26] at H
                            exact absurd H (by simp)
                        · rw [if_neg c25] at H
                          exact absurd H (by simp)
                      · rw [if_neg c23] at H
                        exact absurd H (by simp)
                    · rw [if_neg c22] at H
                      exact absurd H (by simp)
                  · rw [if_neg c21] at H
                    have c21b0 : decide (x40_2 < (l1.length : Int)) = false := decide_eq_false c21
                    clear c21
                    replace H := Option.bind_eq_some_iff.mp H
                    obtain ⟨t110, A650, H⟩ := H
                    replace H : (some t110) = some r := H
                    have A65 := Aside0.mk A650
                    clear A650
                    obtain rfl := Option.some.inj H
                    go_wp2_with (first | ((with_reducible refine gate_callee (f := 9) rfl ?_); refine goesL_ (some 67) rfl rfl Tryd.func9 (by kernel_rfl) rfl #[] rfl (by (try simp only [List.map_toArray, List.map_cons, List.map_nil]); first | done | rfl | (simp only [List.length_drop, List.length_take]; rfl)) ?_; (with_reducible refine (laws_packetAwake.calls  t110 _ A65.out).mono ?_); rintro e w66 ⟨rfl, hb⟩; refine ⟨_, rfl, ?_⟩; have n0_ := Aside0.mk (Kd.R_below (by (with_reducible repeat (first | apply Kd.R_alloc | apply Kd.R_drewN | apply Kd.R_drew)); exact HO_5.out) hb); have n1_ := Aside0.mk (blk_below (g := gb101) (o := .cells #[.int .u16 a0_0, .int .u16 a0_1, .int .u16 a0_2, .int .u16 a0_3, .int .u16 a0_4, .int .u8 a0_5, .int .u8 a0_6, .int .u32 a0_7, .int .u32 a0_8, .bool a0_9] 34 (0, 0)) (by (with_reducible repeat (first | refine blk_drewN ?_ _ | refine blk_drew ?_ | refine blk_alloc ?_ _)); exact BK101.out) hb); have n2_ := Aside0.mk (below_step (by repeat (first | (with_reducible first | exact HB.out | apply below_alloc | apply pw_below_drewN | apply below_drew1 | refine below_set ?_ GE101.out) | exact HB.out)) hb); clear HO_5; clear BK101; clear HB; have HO_5 := n0_; have BK101 := n1_; have HB := n2_; clear n0_ n1_ n2_; (try clear hb); (try clear hb2); (try clear hk); (try clear hi)))
                    go_ret
                    exact ⟨by first | rfl | (simp [errW_none, errW_some] <;> rfl) | (simp [*, errW_none, errW_some] <;> rfl), by repeat (first | (with_reducible first | exact HB.out | apply below_alloc | apply pw_below_drewN | apply below_drew1 | refine below_set ?_ GE101.out) | exact HB.out)⟩
            · rw [if_neg c19] at H
              have c19b0 : ((x5_1.length : Int) == (wrap64 (11 * (l1.length : Int)))) = false := beq_eq_false_iff_ne.mpr c19
              have c19b1 : ((x5_1.length : Int) != (wrap64 (11 * (l1.length : Int)))) = true := bne_iff_ne.mpr c19
              obtain rfl := Option.some.inj H
              obtain ⟨Ao67, co67, eo67⟩ := Kd.R_slice HO_5.out
              subst eo67
              go_wp2
              go_ret
              exact ⟨by first | rfl | (simp [errW_none, errW_some] <;> rfl) | (simp [*, errW_none, errW_some] <;> rfl), by repeat (first | (with_reducible first | exact HB.out | apply below_alloc | apply pw_below_drewN | apply below_drew1 | refine below_set ?_ GE101.out) | exact HB.out)⟩

end Go.Proofs.YtpacjdlgnoiheaaDoor.ZM
