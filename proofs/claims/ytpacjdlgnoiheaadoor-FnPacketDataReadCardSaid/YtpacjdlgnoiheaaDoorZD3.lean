-- Written by a program of this session (wip/xprint.py), which calls the kit's print.
import Derived.Test.YtpacjdlgnoiheaaDoorZD0
import Derived.Test.YtpacjdlgnoiheaaDoorZD1
import Derived.Test.YtpacjdlgnoiheaaDoorZD2
import Derived.Test.YtpacjdlgnoiheaaDoorPe
import Derived.Test.YtpacjdlgnoiheaaDoorPw
import Derived.Test.YtpacjdlgnoiheaaDoorPs
namespace Go.Proofs.YtpacjdlgnoiheaaDoor.ZD
open Go.RowKit Go.Proofs.YtpacjdlgnoiheaaDoor.X Go.Proofs.YtpacjdlgnoiheaaDoorW.PrintWords Go.Proofs.YtpacjdlgnoiheaaDoorW.PrintLast Go.Proofs.YtpacjdlgnoiheaaDoorW.PrintMore
attribute [local go_sem] max2_int min2_int max_two min_two max_three min_three max_four min_four   -- for this text's walks alone
set_option linter.unusedVariables false
set_option linter.unusedSimpArgs false

attribute [local go_sem high] eqA28
/-! ### laws_FnPacketDataRead: function 4 -/
def laws_FnPacketDataRead.j0 : Nat → List Int → Int → List Int → Bool → Bool → Int → Int → Int → Int → Int → Int → Int → Int → Int → Bool → Int → Int → Int → Int → Option (Bool)
  | 0, _, _, _, _, _, _, _, _, _, _, _, _, _, _, _, _, _, _, _ => none
  | k + 1, x1, x6, x7, x8, x33, x112000, x112001, x112002, x112003, x112004, x112005, x112006, x112007, x112008, x112009, x126000, x126001, x126002, x126003 => if x33 = true then (if x8 = true then (some false) else ((laws_packetAwake.f).bind fun t127 => (some t127))) else (if x8 = true then ((spec_PacketGet.f k x1 8 2).bind fun t128 => (if x6 = (IntKind.u16.wrap (t128)) then (if 10 ≤ (x1.length : Int) then ((bytes_Equal.f x7 (x1.drop 10)).bind fun t130 => (if t130 = true then ((spec_PacketLong.f x112000 x112001 x112002 x112003 x112004 x112005 x112006 x112007 x112008 x112009).bind fun t131 => ((spec_PacketHeadOf.f k t131 x1 10).bind fun bt132 => (if (x126000 == bt132.1 && (x126001 == bt132.2.1 && (x126002 == bt132.2.2.1 && (x126003 == bt132.2.2.2)))) = true then ((laws_packetAwake.f).bind fun t136 => (some t136)) else (some false)))) else (some false))) else (none)) else (some false))) else (some false))
def laws_FnPacketDataRead.f (k : Nat) (a0_0 : Int) (a0_1 : Int) (a0_2 : Int) (a0_3 : Int) (a0_4 : Int) (a0_5 : Int) (a0_6 : Int) (a0_7 : Int) (a0_8 : Int) (a0_9 : Bool) (l1 : List Int) : Option (Bool) := if (l1.length : Int) > 2147483647 then (some true) else (if (l1.length : Int) > 3000 then ((laws_packetAwake.f).bind fun t112 => (some t112)) else ((bytes_Clone.f l1).bind fun t113 => ((impl_DataRead.f a0_0 a0_1 a0_2 a0_3 a0_4 a0_5 a0_6 a0_7 a0_8 a0_9 t113).bind fun bt116 => (if (l1.length : Int) < 10 then (laws_FnPacketDataRead.j0 k l1 bt116.2.2.2.2.1 bt116.2.2.2.2.2.1 bt116.2.2.2.2.2.2 true a0_0 a0_1 a0_2 a0_3 a0_4 a0_5 a0_6 a0_7 a0_8 a0_9 bt116.1 bt116.2.1 bt116.2.2.1 bt116.2.2.2.1) else (if 4 < (l1.length : Int) then (laws_FnPacketDataRead.j0 k l1 bt116.2.2.2.2.1 bt116.2.2.2.2.2.1 bt116.2.2.2.2.2.2 ((rd l1 4) != 6) a0_0 a0_1 a0_2 a0_3 a0_4 a0_5 a0_6 a0_7 a0_8 a0_9 bt116.1 bt116.2.1 bt116.2.2.1 bt116.2.2.2.1) else (none))))))
theorem laws_FnPacketDataRead.mono_l : ∀ k, (∀ y0 y1 y2 y3 y4 y5 y6 y7 y8 y9 y10 y11 y12 y13 y14 y15 y16 y17 y18, LeO (laws_FnPacketDataRead.j0 k y0 y1 y2 y3 y4 y5 y6 y7 y8 y9 y10 y11 y12 y13 y14 y15 y16 y17 y18) (laws_FnPacketDataRead.j0 (k + 1) y0 y1 y2 y3 y4 y5 y6 y7 y8 y9 y10 y11 y12 y13 y14 y15 y16 y17 y18))
  | 0 => fun _ _ _ _ _ _ _ _ _ _ _ _ _ _ _ _ _ _ _ r h => by simp [laws_FnPacketDataRead.j0] at h
  | k + 1 => by
    have ih0 := laws_FnPacketDataRead.mono_l k
    · intro y0 y1 y2 y3 y4 y5 y6 y7 y8 y9 y10 y11 y12 y13 y14 y15 y16 y17 y18
      unfold laws_FnPacketDataRead.j0
      repeat' first
      | (with_reducible exact ih0 _ _ _ _ _ _ _ _ _ _ _ _ _ _ _ _ _ _ _)
      | (with_reducible exact spec_PacketGet.mono _ _ _ _)
      | (with_reducible exact spec_PacketHeadOf.mono _ _ _ _)
      | (with_reducible exact LeO.refl _)
      | (with_reducible exact LeO.none _)
      | (with_reducible refine LeO.ite ?_ ?_)
      | (with_reducible refine LeO.bind ?_ (fun _ => ?_))
      | exact ih0 _ _ _ _ _ _ _ _ _ _ _ _ _ _ _ _ _ _ _
      | exact spec_PacketGet.mono _ _ _ _
      | exact spec_PacketHeadOf.mono _ _ _ _
      | exact LeO.none _
      | refine LeO.ite ?_ ?_
      | refine LeO.bind ?_ (fun _ => ?_)
theorem laws_FnPacketDataRead.mono : ∀ a0 a1 a2 a3 a4 a5 a6 a7 a8 a9 a10 k, LeO (laws_FnPacketDataRead.f k a0 a1 a2 a3 a4 a5 a6 a7 a8 a9 a10) (laws_FnPacketDataRead.f (k + 1) a0 a1 a2 a3 a4 a5 a6 a7 a8 a9 a10) := by
  intro a0 a1 a2 a3 a4 a5 a6 a7 a8 a9 a10 k
  have ih0 := laws_FnPacketDataRead.mono_l k
  unfold laws_FnPacketDataRead.f
  repeat' first
      | (with_reducible exact ih0 _ _ _ _ _ _ _ _ _ _ _ _ _ _ _ _ _ _ _)
      | (with_reducible exact spec_PacketGet.mono _ _ _ _)
      | (with_reducible exact spec_PacketHeadOf.mono _ _ _ _)
      | (with_reducible exact LeO.refl _)
      | (with_reducible exact LeO.none _)
      | (with_reducible refine LeO.ite ?_ ?_)
      | (with_reducible refine LeO.bind ?_ (fun _ => ?_))
      | exact ih0 _ _ _ _ _ _ _ _ _ _ _ _ _ _ _ _ _ _ _
      | exact spec_PacketGet.mono _ _ _ _
      | exact spec_PacketHeadOf.mono _ _ _ _
      | exact LeO.none _
      | refine LeO.ite ?_ ?_
      | refine LeO.bind ?_ (fun _ => ?_)
def laws_FnPacketDataRead.T5 : Bool × List (List Nat × List Nat) := (true, [([], []), ([], []), ([1], [1]), ([0, 2, 2], [0, 2]), ([3], [3]), ([4], [4]), ([4], [4]), ([4], [4]), ([4], [4]), ([], []), ([9, 5, 3, 0, 1, 2, 3, 4, 5, 9], [5, 9]), ([6, 10, 0, 1, 2, 3, 4, 5, 6, 9, 10], [6]), ([7, 11, 0, 1, 2, 3, 4, 5, 6, 7, 9, 10, 11], [7]), ([8, 12, 0, 1, 2, 3, 4, 5, 6, 7, 8, 9, 10, 11, 12], [8])])
def laws_FnPacketDataRead.B5 : List Nat := [0, 0, 2, 7, 15, 31, 31, 31, 31, 0, 575, 1663, 3839, 8191]
theorem laws_FnPacketDataRead.tab5 : rtab .any (opsOf Tryd.f4 5) = laws_FnPacketDataRead.T5 := by kernel_rfl
theorem laws_FnPacketDataRead.bits5 : waitsOk laws_FnPacketDataRead.T5.2 laws_FnPacketDataRead.B5 = true := by kernel_rfl
def laws_FnPacketDataRead.T8 : Bool × List (List Nat × List Nat) := (true, [([], []), ([0], [0]), ([1], [1]), ([1], [1]), ([3, 1, 1], [1, 3]), ([4, 1], [1, 4]), ([2, 5, 1], [1, 2, 5]), ([1, 6], [1, 6]), ([7, 4], [7]), ([8], [8]), ([8], [8]), ([10, 8], [8, 10]), ([9, 11, 8, 8], [8, 9, 11]), ([8, 12], [8, 12]), ([13, 12], [13]), ([14], [14]), ([14], [14]), ([16, 14, 14], [14, 16]), ([14], [14]), ([17, 18, 17, 14], [14, 17, 18]), ([15, 19, 14], [14, 15, 19]), ([14, 20], [14, 20]), ([21, 19], [21]), ([22, 22], [22]), ([22, 23], [22, 23]), ([24, 23, 0, 1, 2, 3, 4, 5, 6, 7, 8, 9, 10, 11, 12, 13, 14, 15, 16, 17, 18, 19, 20, 21, 22, 23, 24], [24])])
def laws_FnPacketDataRead.B8 : List Nat := [0, 1, 3, 3, 11, 27, 63, 127, 255, 511, 511, 1535, 4095, 8191, 16383, 32767, 32767, 98303, 32767, 491519, 1048575, 2097151, 4194303, 8388607, 16777215, 33554431]
theorem laws_FnPacketDataRead.tab8 : rtab .any (opsOf Tryd.f4 8) = laws_FnPacketDataRead.T8 := by kernel_rfl
theorem laws_FnPacketDataRead.bits8 : waitsOk laws_FnPacketDataRead.T8.2 laws_FnPacketDataRead.B8 = true := by kernel_rfl
set_option maxHeartbeats 8000000 in
set_option maxRecDepth 100000 in
theorem laws_FnPacketDataRead.calls (k : Nat) (a0_0 : Int) (a0_1 : Int) (a0_2 : Int) (a0_3 : Int) (a0_4 : Int) (a0_5 : Int) (a0_6 : Int) (a0_7 : Int) (a0_8 : Int) (a0_9 : Bool) (A1 : Option Addr) (c1 : Nat) (l1 : List Int) (r : Bool) (w : World) (hr1 : Kd.C (Kd.int .u8) w A1 l1.length l1) (hc1 : l1.length ≤ c1) (h : laws_FnPacketDataRead.f k a0_0 a0_1 a0_2 a0_3 a0_4 a0_5 a0_6 a0_7 a0_8 a0_9 l1 = some r) :
    Calls Tryd.prog 4 #[.agg #[.int .u16 a0_0, .int .u16 a0_1, .int .u16 a0_2, .int .u16 a0_3, .int .u16 a0_4, .int .u8 a0_5, .int .u8 a0_6, .int .u32 a0_7, .int .u32 a0_8, .bool a0_9], .slice A1 l1.length c1] w fun e w' => e = .returned (.bool r) ∧ Below w.heap.size w w' := by
  have hu34 := Tryd.underlying34
  have hu28 := Tryd.underlying28
  have HR1 := Aside0.mk hr1
  have HC1 := Aside0.mk hc1
  clear hr1 hc1
  have HB := Aside0.mk (Below.refl w.heap.size w)
  have H : (if (l1.length : Int) > 2147483647 then (some true) else (if (l1.length : Int) > 3000 then ((laws_packetAwake.f).bind fun t112 => (some t112)) else ((bytes_Clone.f l1).bind fun t113 => ((impl_DataRead.f a0_0 a0_1 a0_2 a0_3 a0_4 a0_5 a0_6 a0_7 a0_8 a0_9 t113).bind fun bt116 => (if (l1.length : Int) < 10 then (laws_FnPacketDataRead.j0 k l1 bt116.2.2.2.2.1 bt116.2.2.2.2.2.1 bt116.2.2.2.2.2.2 true a0_0 a0_1 a0_2 a0_3 a0_4 a0_5 a0_6 a0_7 a0_8 a0_9 bt116.1 bt116.2.1 bt116.2.2.1 bt116.2.2.2.1) else (if 4 < (l1.length : Int) then (laws_FnPacketDataRead.j0 k l1 bt116.2.2.2.2.1 bt116.2.2.2.2.2.1 bt116.2.2.2.2.2.2 ((rd l1 4) != 6) a0_0 a0_1 a0_2 a0_3 a0_4 a0_5 a0_6 a0_7 a0_8 a0_9 bt116.1 bt116.2.1 bt116.2.2.1 bt116.2.2.2.1) else (none))))))) = some r := h
  clear h
  by_cases c3 : (l1.length : Int) > 2147483647
  · rw [if_pos c3] at H
    have c3b0 : decide (2147483647 < (l1.length : Int)) = true := decide_eq_true c3
    have c3b1 : decide (2147483647 < l1.length) = true := decide_eq_true (by omega)
    clear c3
    obtain rfl := Option.some.inj H
    go_enter Tryd.func4, Tryd.ntmps4
    go_wp2_with (first | ((with_reducible refine gate_dst (N := 2) rfl ?_); refine box_event ?hg (N := 2) ?hd (cs := #[.int .u16 a0_0, .int .u16 a0_1, .int .u16 a0_2, .int .u16 a0_3, .int .u16 a0_4, .int .u8 a0_5, .int .u8 a0_6, .int .u32 a0_7, .int .u32 a0_8, .bool a0_9]) (t := 34) ?hr ?_; (case hd => rfl); (case hg => rfl); (case hr => first | (go_simp; done) | (go_simp; rfl)); intro gb111 hg w4 hbox hb; have n0_ := Aside0.mk (below_step (by repeat (first | (with_reducible first | exact HB.out | apply below_alloc | apply pw_below_drewN | apply below_drew1) | exact HB.out)) hb); have n1_ := Aside0.mk (hbox); have n2_ := Aside0.mk ((by rw [hg]; exact (below_size (by repeat (first | (with_reducible first | exact HB.out | apply below_alloc | apply pw_below_drewN | apply below_drew1) | exact HB.out))) : w.heap.size ≤ gb111)); have n3_ := Aside0.mk ((by rw [hg]; exact (below_size (by repeat (first | (with_reducible first | exact HB.out | apply below_alloc | apply pw_below_drewN | apply below_drew1) | exact HB.out))) : w.heap.size ≤ gb111)); clear HB; have HB := n0_; have BK111 := n1_; have GW111 := n2_; have GE111 := n3_; clear n0_ n1_ n2_ n3_; clear hb hbox hg))
    go_ret
    exact ⟨by first | rfl | (simp [errW_none, errW_some] <;> rfl) | (simp [*, errW_none, errW_some] <;> rfl), by repeat (first | (with_reducible first | exact HB.out | apply below_alloc | apply pw_below_drewN | apply below_drew1 | refine below_set ?_ GE111.out) | exact HB.out)⟩
  · rw [if_neg c3] at H
    have c3b0 : decide (2147483647 < (l1.length : Int)) = false := decide_eq_false c3
    have c3b1 : decide (2147483647 < l1.length) = false := decide_eq_false (by omega)
    clear c3
    by_cases c5 : (l1.length : Int) > 3000
    · rw [if_pos c5] at H
      have c5b0 : decide (3000 < (l1.length : Int)) = true := decide_eq_true c5
      have c5b1 : decide (3000 < l1.length) = true := decide_eq_true (by omega)
      clear c5
      replace H := Option.bind_eq_some_iff.mp H
      obtain ⟨t112, A60, H⟩ := H
      replace H : (some t112) = some r := H
      have A6 := Aside0.mk A60
      clear A60
      obtain rfl := Option.some.inj H
      go_enter Tryd.func4, Tryd.ntmps4
      go_wp2_with (first | ((with_reducible refine gate_dst (N := 2) rfl ?_); refine box_event ?hg (N := 2) ?hd (cs := #[.int .u16 a0_0, .int .u16 a0_1, .int .u16 a0_2, .int .u16 a0_3, .int .u16 a0_4, .int .u8 a0_5, .int .u8 a0_6, .int .u32 a0_7, .int .u32 a0_8, .bool a0_9]) (t := 34) ?hr ?_; (case hd => rfl); (case hg => rfl); (case hr => first | (go_simp; done) | (go_simp; rfl)); intro gb111 hg w7 hbox hb; have n0_ := Aside0.mk (below_step (by repeat (first | (with_reducible first | exact HB.out | apply below_alloc | apply pw_below_drewN | apply below_drew1) | exact HB.out)) hb); have n1_ := Aside0.mk (hbox); have n2_ := Aside0.mk ((by rw [hg]; exact (below_size (by repeat (first | (with_reducible first | exact HB.out | apply below_alloc | apply pw_below_drewN | apply below_drew1) | exact HB.out))) : w.heap.size ≤ gb111)); have n3_ := Aside0.mk ((by rw [hg]; exact (below_size (by repeat (first | (with_reducible first | exact HB.out | apply below_alloc | apply pw_below_drewN | apply below_drew1) | exact HB.out))) : w.heap.size ≤ gb111)); clear HB; have HB := n0_; have BK111 := n1_; have GW111 := n2_; have GE111 := n3_; clear n0_ n1_ n2_ n3_; clear hb hbox hg) | ((with_reducible refine gate_callee (f := 9) rfl ?_); refine goesL_ (some 15) rfl rfl Tryd.func9 (by kernel_rfl) rfl #[] rfl (by (try simp only [List.map_toArray, List.map_cons, List.map_nil]); first | done | rfl | (simp only [List.length_drop, List.length_take]; rfl)) ?_; (with_reducible refine (laws_packetAwake.calls  t112 _ A6.out).mono ?_); rintro e w8 ⟨rfl, hb⟩; refine ⟨_, rfl, ?_⟩; have n0_ := Aside0.mk (blk_below (g := gb111) (o := .cells #[.int .u16 a0_0, .int .u16 a0_1, .int .u16 a0_2, .int .u16 a0_3, .int .u16 a0_4, .int .u8 a0_5, .int .u8 a0_6, .int .u32 a0_7, .int .u32 a0_8, .bool a0_9] 34 (0, 0)) (by (with_reducible repeat (first | refine blk_drewN ?_ _ | refine blk_drew ?_ | refine blk_alloc ?_ _)); exact BK111.out) hb); have n1_ := Aside0.mk (below_step (by repeat (first | (with_reducible first | exact HB.out | apply below_alloc | apply pw_below_drewN | apply below_drew1 | refine below_set ?_ GE111.out) | exact HB.out)) hb); clear BK111; clear HB; have BK111 := n0_; have HB := n1_; clear n0_ n1_; (try clear hb); (try clear hb2); (try clear hk); (try clear hi)))
      go_ret
      exact ⟨by first | rfl | (simp [errW_none, errW_some] <;> rfl) | (simp [*, errW_none, errW_some] <;> rfl), by repeat (first | (with_reducible first | exact HB.out | apply below_alloc | apply pw_below_drewN | apply below_drew1 | refine below_set ?_ GE111.out) | exact HB.out)⟩
    · rw [if_neg c5] at H
      have c5b0 : decide (3000 < (l1.length : Int)) = false := decide_eq_false c5
      have c5b1 : decide (3000 < l1.length) = false := decide_eq_false (by omega)
      clear c5
      replace H := Option.bind_eq_some_iff.mp H
      obtain ⟨t113, A90, H⟩ := H
      replace H : ((impl_DataRead.f a0_0 a0_1 a0_2 a0_3 a0_4 a0_5 a0_6 a0_7 a0_8 a0_9 t113).bind fun bt116 => (if (l1.length : Int) < 10 then (laws_FnPacketDataRead.j0 k l1 bt116.2.2.2.2.1 bt116.2.2.2.2.2.1 bt116.2.2.2.2.2.2 true a0_0 a0_1 a0_2 a0_3 a0_4 a0_5 a0_6 a0_7 a0_8 a0_9 bt116.1 bt116.2.1 bt116.2.2.1 bt116.2.2.2.1) else (if 4 < (l1.length : Int) then (laws_FnPacketDataRead.j0 k l1 bt116.2.2.2.2.1 bt116.2.2.2.2.2.1 bt116.2.2.2.2.2.2 ((rd l1 4) != 6) a0_0 a0_1 a0_2 a0_3 a0_4 a0_5 a0_6 a0_7 a0_8 a0_9 bt116.1 bt116.2.1 bt116.2.2.1 bt116.2.2.2.1) else (none)))) = some r := H
      have A9 := Aside0.mk A90
      clear A90
      replace H := Option.bind_eq_some_iff.mp H
      obtain ⟨⟨t116, t117, t118, t119, t120, t121, t124⟩, A100, H⟩ := H
      replace H : (if (l1.length : Int) < 10 then (laws_FnPacketDataRead.j0 k l1 t120 t121 t124 true a0_0 a0_1 a0_2 a0_3 a0_4 a0_5 a0_6 a0_7 a0_8 a0_9 t116 t117 t118 t119) else (if 4 < (l1.length : Int) then (laws_FnPacketDataRead.j0 k l1 t120 t121 t124 ((rd l1 4) != 6) a0_0 a0_1 a0_2 a0_3 a0_4 a0_5 a0_6 a0_7 a0_8 a0_9 t116 t117 t118 t119) else (none))) = some r := H
      have A10 := Aside0.mk A100
      clear A100
      have HC11 := Aside0.mk H
      clear H
      go_enter Tryd.func4, Tryd.ntmps4
      try go_wp2_with (first | ((with_reducible refine gate_dst (N := 2) rfl ?_); refine box_event ?hg (N := 2) ?hd (cs := #[.int .u16 a0_0, .int .u16 a0_1, .int .u16 a0_2, .int .u16 a0_3, .int .u16 a0_4, .int .u8 a0_5, .int .u8 a0_6, .int .u32 a0_7, .int .u32 a0_8, .bool a0_9]) (t := 34) ?hr ?_; (case hd => rfl); (case hg => rfl); (case hr => first | (go_simp; done) | (go_simp; rfl)); intro gb111 hg w12 hbox hb; have n0_ := Aside0.mk (below_step (by repeat (first | (with_reducible first | exact HB.out | apply below_alloc | apply pw_below_drewN | apply below_drew1) | exact HB.out)) hb); have n1_ := Aside0.mk (hbox); have n2_ := Aside0.mk ((by rw [hg]; exact (below_size (by repeat (first | (with_reducible first | exact HB.out | apply below_alloc | apply pw_below_drewN | apply below_drew1) | exact HB.out))) : w.heap.size ≤ gb111)); have n3_ := Aside0.mk ((by rw [hg]; exact (below_size (by repeat (first | (with_reducible first | exact HB.out | apply below_alloc | apply pw_below_drewN | apply below_drew1) | exact HB.out))) : w.heap.size ≤ gb111)); clear HB; have HB := n0_; have BK111 := n1_; have GW111 := n2_; have GE111 := n3_; clear n0_ n1_ n2_ n3_; clear hb hbox hg))
      have n0_ := Aside0.mk (blk_drew BK111.out)
      have n1_ := Aside0.mk (below_drew1 HB.out)
      clear BK111
      clear HB
      have BK111 := n0_
      have HB := n1_
      clear n0_ n1_
      refine start_ (n := 14) (S := fun w' => w'.cell? ⟨gb111, 0, none⟩ = some (.int .u16 a0_0) ∧ w'.cell? ⟨gb111, 1, none⟩ = some (.int .u16 a0_1) ∧ w'.cell? ⟨gb111, 2, none⟩ = some (.int .u16 a0_2) ∧ w'.cell? ⟨gb111, 3, none⟩ = some (.int .u16 a0_3) ∧ w'.cell? ⟨gb111, 4, none⟩ = some (.int .u16 a0_4) ∧ w'.cell? ⟨gb111, 5, none⟩ = some (.int .u8 a0_5) ∧ w'.cell? ⟨gb111, 6, none⟩ = some (.int .u8 a0_6) ∧ w'.cell? ⟨gb111, 7, none⟩ = some (.int .u32 a0_7) ∧ w'.cell? ⟨gb111, 8, none⟩ = some (.int .u32 a0_8) ∧ w'.cell? ⟨gb111, 9, none⟩ = some (.bool a0_9)) (ds := []) #[false, false, false, false, false, false, false, false, false, false, false, false, false, false] (by kernel_rfl) rfl rfl ⟨(blk_cell BK111.out 0).trans rfl, (blk_cell BK111.out 1).trans rfl, (blk_cell BK111.out 2).trans rfl, (blk_cell BK111.out 3).trans rfl, (blk_cell BK111.out 4).trans rfl, (blk_cell BK111.out 5).trans rfl, (blk_cell BK111.out 6).trans rfl, (blk_cell BK111.out 7).trans rfl, (blk_cell BK111.out 8).trans rfl, (blk_cell BK111.out 9).trans rfl⟩ (fun hHeld => ?_); refine with_tabW laws_FnPacketDataRead.tab5 laws_FnPacketDataRead.bits5 (fun HT_ HW_ => ?_)
      generalize w12.drew = w13 at BK111 HB hHeld ⊢
      refine pure_ (i := 1) (N := some 18) (v := ?_) (a' := ?_) #[false, true, false, false, false, false, false, false, false, false, false, false, false, false] rfl rfl (any_of HT_.out (by kernel_rfl)) (fun _ _ _ h => h) (Or.inl ⟨by rfl, ?_⟩) ?_ ?_
      rotate_left
      · intro w'
        go_simp
        with_reducible rfl
      rotate_left
      · simp only [Act.put, List.setIfInBounds_toArray, List.set_cons_zero, List.set_cons_succ, i64_w, i32_w]
        rfl
      refine take_ (i := 0) (N := some 17) (v := ?_) (a' := ?_) #[true, true, false, false, false, false, false, false, false, false, false, false, false, false] rfl rfl (take_ofW HT_.out HW_.out (by kernel_rfl)) (fun _ _ _ h => h) (Or.inl ⟨by rfl, ?_⟩) hHeld ?_ ?_
      rotate_left
      · rintro w' ⟨s0, s1, s2, s3, s4, s5, s6, s7, s8, s9⟩
        go_simp
        with_reducible rfl
      rotate_left
      · simp only [Act.put, List.setIfInBounds_toArray, List.set_cons_zero, List.set_cons_succ, i64_w, i32_w]
        rfl
      refine join_ (σ := Value × Value × Nat) 4 #[true, true, true, true, true, true, true, true, true, true, false, false, false, false] (fun s_ => [(19, s_.1), (20, .tuple #[.agg #[.int .u32 t116, .int .u8 t117, .int .u8 t118, .int .u16 t119], .int .u16 t120, s_.2.1, .bool t124]), (5, .pointer (some ⟨s_.2.2, 0, none⟩)), (16, .tuple #[.agg #[.int .u32 t116, .int .u8 t117, .int .u8 t118, .int .u16 t119], .int .u16 t120, s_.2.1, .bool t124]), (21, .agg #[.int .u32 t116, .int .u8 t117, .int .u8 t118, .int .u16 t119]), (22, .int .u16 t120), (23, s_.2.1), (24, .bool t124)]) (fun s_ w' => (w'.cell? ⟨gb111, 0, none⟩ = some (.int .u16 a0_0) ∧ w'.cell? ⟨gb111, 1, none⟩ = some (.int .u16 a0_1) ∧ w'.cell? ⟨gb111, 2, none⟩ = some (.int .u16 a0_2) ∧ w'.cell? ⟨gb111, 3, none⟩ = some (.int .u16 a0_3) ∧ w'.cell? ⟨gb111, 4, none⟩ = some (.int .u16 a0_4) ∧ w'.cell? ⟨gb111, 5, none⟩ = some (.int .u8 a0_5) ∧ w'.cell? ⟨gb111, 6, none⟩ = some (.int .u8 a0_6) ∧ w'.cell? ⟨gb111, 7, none⟩ = some (.int .u32 a0_7) ∧ w'.cell? ⟨gb111, 8, none⟩ = some (.int .u32 a0_8) ∧ w'.cell? ⟨gb111, 9, none⟩ = some (.bool a0_9)) ∧ (Kd.R (Kd.int .u8) 5 w' w.heap.size (fun k_ => some k_ ≠ (s_.2.1 : Value).ownBlock) s_.1 t113) ∧ (Kd.R (Kd.int .u8) 5 w' w.heap.size (fun k_ => some k_ ≠ (s_.1 : Value).ownBlock) s_.2.1 t121) ∧ (w'.heap[gb111]? = some (.cells #[.int .u16 a0_0, .int .u16 a0_1, .int .u16 a0_2, .int .u16 a0_3, .int .u16 a0_4, .int .u8 a0_5, .int .u8 a0_6, .int .u32 a0_7, .int .u32 a0_8, .bool a0_9] 34 (0, 0))) ∧ (w'.heap[s_.2.2]? = some (.cells #[.int .u32 0, .int .u8 0, .int .u8 0, .int .u16 0] 28 (0, 0))) ∧ (w.heap.size ≤ s_.2.2) ∧ (w.heap.size ≤ s_.2.2) ∧ (gb111 ≠ s_.2.2) ∧ (s_.2.2 ≠ gb111) ∧ (Below w.heap.size w w')) ?_ ?_
      rotate_left
      · intro hCont
        refine two_ (i := 2) (j := 9) (Ni := some 19) (Nj := some 5) #[true, true, true, false, false, false, false, false, false, false, false, false, false, false] #[true, true, false, false, false, false, false, false, false, true, false, false, false, false] rfl rfl rfl rfl (two_of HT_.out (by kernel_rfl)) (by decide) (by decide) (fun K hK => ?_) (fun K hK => ?_)
        · skip
          refine goes_ Tryd.func12 (by kernel_rfl) rfl #[.slice A1 l1.length c1] (by rfl) rfl rfl (by (try simp only [List.map_toArray, List.map_cons, List.map_nil]); first | done | rfl | (simp only [List.length_drop, List.length_take]; rfl)) ?_
          with_reducible refine (bytes_Clone.calls _ _ l1 t113 _ ?side1 ?side2 A9.out).mono ?_
          (case side1 => repeat (first | exact (Kd.C_below HR1.out HB.out) | (with_reducible refine Kd.C_alloc ?_ _) | (with_reducible refine Kd.C_drewN ?_ _) | (with_reducible refine Kd.C_drew ?_)))
          (case side2 => exact HC1.out)
          rintro e w14 ⟨v114, rfl, ho0, hb⟩
          refine ⟨_, rfl, ?_⟩
          have n0_ := Aside0.mk (Kd.R_lower ho0 (below_size (by repeat (first | (with_reducible first | exact HB.out | apply below_alloc | apply pw_below_drewN | apply below_drew1 | refine below_set ?_ GE111.out) | exact HB.out))))
          have n1_ := Aside0.mk (blk_below (g := gb111) (o := .cells #[.int .u16 a0_0, .int .u16 a0_1, .int .u16 a0_2, .int .u16 a0_3, .int .u16 a0_4, .int .u8 a0_5, .int .u8 a0_6, .int .u32 a0_7, .int .u32 a0_8, .bool a0_9] 34 (0, 0)) (by (with_reducible repeat (first | refine blk_drewN ?_ _ | refine blk_drew ?_ | refine blk_alloc ?_ _)); exact BK111.out) hb)
          have n2_ := Aside0.mk (below_step (by repeat (first | (with_reducible first | exact HB.out | apply below_alloc | apply pw_below_drewN | apply below_drew1 | refine below_set ?_ GE111.out) | exact HB.out)) hb)
          clear BK111
          clear HB
          have HO115 := n0_
          have BK111 := n1_
          have HB := n2_
          clear n0_ n1_ n2_
          (try clear hb)
          (try clear hb2)
          (try clear hk)
          (try clear hi)
          (try clear ho0)
          obtain ⟨Ao15, co15, eo15⟩ := Kd.R_slice HO115.out
          (first | subst eo15 | (injection eo15 with f1_ f2_ f3_; have f4_ := f1_.symm; have f5_ := f3_.symm; clear f1_ f2_ f3_; subst f4_; subst f5_))
          refine hK.out _ _ ⟨(blk_cell BK111.out 0).trans rfl, (blk_cell BK111.out 1).trans rfl, (blk_cell BK111.out 2).trans rfl, (blk_cell BK111.out 3).trans rfl, (blk_cell BK111.out 4).trans rfl, (blk_cell BK111.out 5).trans rfl, (blk_cell BK111.out 6).trans rfl, (blk_cell BK111.out 7).trans rfl, (blk_cell BK111.out 8).trans rfl, (blk_cell BK111.out 9).trans rfl⟩ (fun hHeld => ?_)
          clear hK K
          refine norm_ (a' := ?_) ?_ ?_
          rotate_left
          · show Act.put _ (some 19) _ = _
            simp only [Act.put, List.setIfInBounds_toArray, List.set_cons_zero, List.set_cons_succ, i64_w, i32_w]
            rfl
          refine two_ (i := 3) (j := 9) (Ni := some 20) (Nj := some 5) #[true, true, true, true, false, false, false, false, false, false, false, false, false, false] #[true, true, true, false, false, false, false, false, false, true, false, false, false, false] rfl rfl rfl rfl (two_of HT_.out (by kernel_rfl)) (by decide) (by decide) (fun K hK => ?_) (fun K hK => ?_)
          · skip
            refine goes_ Tryd.func13 (by kernel_rfl) rfl #[.agg #[.int .u16 a0_0, .int .u16 a0_1, .int .u16 a0_2, .int .u16 a0_3, .int .u16 a0_4, .int .u8 a0_5, .int .u8 a0_6, .int .u32 a0_7, .int .u32 a0_8, .bool a0_9], .slice Ao15 t113.length co15] (by rfl) rfl rfl (by (try simp only [List.map_toArray, List.map_cons, List.map_nil]); first | done | rfl | (simp only [List.length_drop, List.length_take]; rfl)) ?_
            with_reducible refine (impl_DataRead.calls a0_0 a0_1 a0_2 a0_3 a0_4 a0_5 a0_6 a0_7 a0_8 a0_9 _ _ t113 t116 t117 t118 t119 t120 t121 t124 _ ?side1 ?side2 A10.out).mono ?_
            (case side1 => repeat (first | exact (Kd.R_reads' HO115.out).2.2 | (with_reducible refine Kd.C_alloc ?_ _) | (with_reducible refine Kd.C_drewN ?_ _) | (with_reducible refine Kd.C_drew ?_)))
            (case side2 => exact (Kd.R_reads' HO115.out).2.1)
            rintro e w16 ⟨v122, rfl, ho0, hb⟩
            refine ⟨_, rfl, ?_⟩
            have n0_ := Aside0.mk (Kd.R_elder' (by (with_reducible repeat (first | apply Kd.R_alloc | apply Kd.R_drewN | apply Kd.R_drew)); exact HO115.out) (Kd.R_base ho0) hb)
            have n1_ := Aside0.mk (Kd.R_lower (Kd.R_new' ho0 (Kd.R_lt (by (with_reducible repeat (first | apply Kd.R_alloc | apply Kd.R_drewN | apply Kd.R_drew)); exact HO115.out))) (below_size (by repeat (first | (with_reducible first | exact HB.out | apply below_alloc | apply pw_below_drewN | apply below_drew1 | refine below_set ?_ GE111.out) | exact HB.out))))
            have n2_ := Aside0.mk (blk_below (g := gb111) (o := .cells #[.int .u16 a0_0, .int .u16 a0_1, .int .u16 a0_2, .int .u16 a0_3, .int .u16 a0_4, .int .u8 a0_5, .int .u8 a0_6, .int .u32 a0_7, .int .u32 a0_8, .bool a0_9] 34 (0, 0)) (by (with_reducible repeat (first | refine blk_drewN ?_ _ | refine blk_drew ?_ | refine blk_alloc ?_ _)); exact BK111.out) hb)
            have n3_ := Aside0.mk (below_step (by repeat (first | (with_reducible first | exact HB.out | apply below_alloc | apply pw_below_drewN | apply below_drew1 | refine below_set ?_ GE111.out) | exact HB.out)) hb)
            clear HO115
            clear BK111
            clear HB
            have HO115 := n0_
            have HO123 := n1_
            have BK111 := n2_
            have HB := n3_
            clear n0_ n1_ n2_ n3_
            (try clear hb)
            (try clear hb2)
            (try clear hk)
            (try clear hi)
            (try clear ho0)
            refine hK.out _ _ ⟨(blk_cell BK111.out 0).trans rfl, (blk_cell BK111.out 1).trans rfl, (blk_cell BK111.out 2).trans rfl, (blk_cell BK111.out 3).trans rfl, (blk_cell BK111.out 4).trans rfl, (blk_cell BK111.out 5).trans rfl, (blk_cell BK111.out 6).trans rfl, (blk_cell BK111.out 7).trans rfl, (blk_cell BK111.out 8).trans rfl, (blk_cell BK111.out 9).trans rfl⟩ (fun hHeld => ?_)
            clear hK K
            refine norm_ (a' := ?_) ?_ ?_
            rotate_left
            · show Act.put _ (some 20) _ = _
              simp only [Act.put, List.setIfInBounds_toArray, List.set_cons_zero, List.set_cons_succ, i64_w, i32_w]
              rfl
            refine pure_ (i := 4) (N := some 16) (v := ?_) (a' := ?_) #[true, true, true, true, true, false, false, false, false, false, false, false, false, false] rfl rfl (any_of HT_.out (by kernel_rfl)) (fun _ _ _ h => h) (Or.inl ⟨by rfl, ?_⟩) ?_ ?_
            rotate_left
            · intro w'
              go_simp
              with_reducible rfl
            rotate_left
            · simp only [Act.put, List.setIfInBounds_toArray, List.set_cons_zero, List.set_cons_succ, i64_w, i32_w]
              rfl
            refine pure_ (i := 5) (N := some 21) (v := ?_) (a' := ?_) #[true, true, true, true, true, true, false, false, false, false, false, false, false, false] rfl rfl (any_of HT_.out (by kernel_rfl)) (fun _ _ _ h => h) (Or.inl ⟨by rfl, ?_⟩) ?_ ?_
            rotate_left
            · intro w'
              go_simp
              with_reducible rfl
            rotate_left
            · simp only [Act.put, List.setIfInBounds_toArray, List.set_cons_zero, List.set_cons_succ, i64_w, i32_w]
              rfl
            refine pure_ (i := 6) (N := some 22) (v := ?_) (a' := ?_) #[true, true, true, true, true, true, true, false, false, false, false, false, false, false] rfl rfl (any_of HT_.out (by kernel_rfl)) (fun _ _ _ h => h) (Or.inl ⟨by rfl, ?_⟩) ?_ ?_
            rotate_left
            · intro w'
              go_simp
              with_reducible rfl
            rotate_left
            · simp only [Act.put, List.setIfInBounds_toArray, List.set_cons_zero, List.set_cons_succ, i64_w, i32_w]
              rfl
            refine pure_ (i := 7) (N := some 23) (v := ?_) (a' := ?_) #[true, true, true, true, true, true, true, true, false, false, false, false, false, false] rfl rfl (any_of HT_.out (by kernel_rfl)) (fun _ _ _ h => h) (Or.inl ⟨by rfl, ?_⟩) ?_ ?_
            rotate_left
            · intro w'
              go_simp
              with_reducible rfl
            rotate_left
            · simp only [Act.put, List.setIfInBounds_toArray, List.set_cons_zero, List.set_cons_succ, i64_w, i32_w]
              rfl
            refine pure_ (i := 8) (N := some 24) (v := ?_) (a' := ?_) #[true, true, true, true, true, true, true, true, true, false, false, false, false, false] rfl rfl (any_of HT_.out (by kernel_rfl)) (fun _ _ _ h => h) (Or.inl ⟨by rfl, ?_⟩) ?_ ?_
            rotate_left
            · intro w'
              go_simp
              with_reducible rfl
            rotate_left
            · simp only [Act.put, List.setIfInBounds_toArray, List.set_cons_zero, List.set_cons_succ, i64_w, i32_w]
              rfl
            refine one_ (i := 9) (N := some 5) #[true, true, true, true, true, true, true, true, true, true, false, false, false, false] rfl rfl (one_of HT_.out (by kernel_rfl)) (by decide) (fun K hK => ?_)
            refine box_step ?hg (N := 5) ?hd (cs := #[.int .u32 0, .int .u8 0, .int .u8 0, .int .u16 0]) (t := 28) ?hr ?_; (case hd => rfl); (case hg => rfl); (case hr => first | (go_simp; done) | (go_simp; rfl))
            intro gb125 hg w17 hbox hb
            have n0_ := Aside0.mk (Kd.R_below (by (with_reducible repeat (first | apply Kd.R_alloc | apply Kd.R_drewN | apply Kd.R_drew)); exact HO115.out) hb)
            have n1_ := Aside0.mk (Kd.R_below (by (with_reducible repeat (first | apply Kd.R_alloc | apply Kd.R_drewN | apply Kd.R_drew)); exact HO123.out) hb)
            have n2_ := Aside0.mk (blk_below (g := gb111) (o := .cells #[.int .u16 a0_0, .int .u16 a0_1, .int .u16 a0_2, .int .u16 a0_3, .int .u16 a0_4, .int .u8 a0_5, .int .u8 a0_6, .int .u32 a0_7, .int .u32 a0_8, .bool a0_9] 34 (0, 0)) (by (with_reducible repeat (first | refine blk_drewN ?_ _ | refine blk_drew ?_ | refine blk_alloc ?_ _)); exact BK111.out) hb)
            have n3_ := Aside0.mk (below_step (by repeat (first | (with_reducible first | exact HB.out | apply below_alloc | apply pw_below_drewN | apply below_drew1 | refine below_set ?_ GE111.out) | exact HB.out)) hb)
            have n4_ := Aside0.mk (hbox)
            have n5_ := Aside0.mk ((by rw [hg]; exact (below_size (by repeat (first | (with_reducible first | exact HB.out | apply below_alloc | apply pw_below_drewN | apply below_drew1 | refine below_set ?_ GE111.out) | exact HB.out))) : w.heap.size ≤ gb125))
            have n6_ := Aside0.mk ((by rw [hg]; exact (below_size (by repeat (first | (with_reducible first | exact HB.out | apply below_alloc | apply pw_below_drewN | apply below_drew1 | refine below_set ?_ GE111.out) | exact HB.out))) : w.heap.size ≤ gb125))
            have n7_ := Aside0.mk ((by rw [hg]; exact Nat.ne_of_lt (blk_lt (g := gb111) (o := .cells #[.int .u16 a0_0, .int .u16 a0_1, .int .u16 a0_2, .int .u16 a0_3, .int .u16 a0_4, .int .u8 a0_5, .int .u8 a0_6, .int .u32 a0_7, .int .u32 a0_8, .bool a0_9] 34 (0, 0)) (by (with_reducible repeat (first | refine blk_drewN ?_ _ | refine blk_drew ?_ | refine blk_alloc ?_ _)); exact BK111.out)) : gb111 ≠ gb125))
            have n8_ := Aside0.mk ((by rw [hg]; exact Nat.ne_of_gt (blk_lt (g := gb111) (o := .cells #[.int .u16 a0_0, .int .u16 a0_1, .int .u16 a0_2, .int .u16 a0_3, .int .u16 a0_4, .int .u8 a0_5, .int .u8 a0_6, .int .u32 a0_7, .int .u32 a0_8, .bool a0_9] 34 (0, 0)) (by (with_reducible repeat (first | refine blk_drewN ?_ _ | refine blk_drew ?_ | refine blk_alloc ?_ _)); exact BK111.out)) : gb125 ≠ gb111))
            clear HO115
            clear HO123
            clear BK111
            clear HB
            have HO115 := n0_
            have HO123 := n1_
            have BK111 := n2_
            have HB := n3_
            have BK125 := n4_
            have GW125 := n5_
            have GE125 := n6_
            have NB111_125 := n7_
            have NB125_111 := n8_
            clear n0_ n1_ n2_ n3_ n4_ n5_ n6_ n7_ n8_
            clear hb hbox hg
            refine hK.out _ _ ⟨(blk_cell BK111.out 0).trans rfl, (blk_cell BK111.out 1).trans rfl, (blk_cell BK111.out 2).trans rfl, (blk_cell BK111.out 3).trans rfl, (blk_cell BK111.out 4).trans rfl, (blk_cell BK111.out 5).trans rfl, (blk_cell BK111.out 6).trans rfl, (blk_cell BK111.out 7).trans rfl, (blk_cell BK111.out 8).trans rfl, (blk_cell BK111.out 9).trans rfl⟩ (fun hHeld => ?_)
            clear hK K
            refine norm_ (a' := ?_) ?_ ?_
            rotate_left
            · show Act.put _ (some 5) _ = _
              simp only [Act.put, List.setIfInBounds_toArray, List.set_cons_zero, List.set_cons_succ, i64_w, i32_w]
              rfl
            exact norm_ (by simp only [putAll, Act.put, List.setIfInBounds_toArray, List.set_cons_zero, List.set_cons_succ]) (hCont (.slice Ao15 t113.length co15, v122, gb125) _ ⟨hHeld, (by (with_reducible repeat (first | apply Kd.R_alloc | apply Kd.R_drewN | apply Kd.R_drew)); exact Kd.R_mono HO115.out (fun _ hk => hk.2)), (by (with_reducible repeat (first | apply Kd.R_alloc | apply Kd.R_drewN | apply Kd.R_drew)); exact Kd.R_mono HO123.out (fun _ hk => hk.2)), (by (with_reducible repeat (first | refine blk_drewN ?_ _ | refine blk_drew ?_ | refine blk_alloc ?_ _)); exact BK111.out), (by (with_reducible repeat (first | refine blk_drewN ?_ _ | refine blk_drew ?_ | refine blk_alloc ?_ _)); exact BK125.out), GW125.out, GE125.out, NB111_125.out, NB125_111.out, (by repeat (first | (with_reducible first | exact HB.out | apply below_alloc | apply pw_below_drewN | apply below_drew1 | refine below_set ?_ GE111.out | refine below_set ?_ GE125.out) | exact HB.out))⟩)
          · skip
            refine box_step ?hg (N := 5) ?hd (cs := #[.int .u32 0, .int .u8 0, .int .u8 0, .int .u16 0]) (t := 28) ?hr ?_; (case hd => rfl); (case hg => rfl); (case hr => first | (go_simp; done) | (go_simp; rfl))
            intro gb125 hg w15 hbox hb
            have n0_ := Aside0.mk (Kd.R_below (by (with_reducible repeat (first | apply Kd.R_alloc | apply Kd.R_drewN | apply Kd.R_drew)); exact HO115.out) hb)
            have n1_ := Aside0.mk (blk_below (g := gb111) (o := .cells #[.int .u16 a0_0, .int .u16 a0_1, .int .u16 a0_2, .int .u16 a0_3, .int .u16 a0_4, .int .u8 a0_5, .int .u8 a0_6, .int .u32 a0_7, .int .u32 a0_8, .bool a0_9] 34 (0, 0)) (by (with_reducible repeat (first | refine blk_drewN ?_ _ | refine blk_drew ?_ | refine blk_alloc ?_ _)); exact BK111.out) hb)
            have n2_ := Aside0.mk (below_step (by repeat (first | (with_reducible first | exact HB.out | apply below_alloc | apply pw_below_drewN | apply below_drew1 | refine below_set ?_ GE111.out) | exact HB.out)) hb)
            have n3_ := Aside0.mk (hbox)
            have n4_ := Aside0.mk ((by rw [hg]; exact (below_size (by repeat (first | (with_reducible first | exact HB.out | apply below_alloc | apply pw_below_drewN | apply below_drew1 | refine below_set ?_ GE111.out) | exact HB.out))) : w.heap.size ≤ gb125))
            have n5_ := Aside0.mk ((by rw [hg]; exact (below_size (by repeat (first | (with_reducible first | exact HB.out | apply below_alloc | apply pw_below_drewN | apply below_drew1 | refine below_set ?_ GE111.out) | exact HB.out))) : w.heap.size ≤ gb125))
            have n6_ := Aside0.mk ((by rw [hg]; exact Nat.ne_of_lt (blk_lt (g := gb111) (o := .cells #[.int .u16 a0_0, .int .u16 a0_1, .int .u16 a0_2, .int .u16 a0_3, .int .u16 a0_4, .int .u8 a0_5, .int .u8 a0_6, .int .u32 a0_7, .int .u32 a0_8, .bool a0_9] 34 (0, 0)) (by (with_reducible repeat (first | refine blk_drewN ?_ _ | refine blk_drew ?_ | refine blk_alloc ?_ _)); exact BK111.out)) : gb111 ≠ gb125))
            have n7_ := Aside0.mk ((by rw [hg]; exact Nat.ne_of_gt (blk_lt (g := gb111) (o := .cells #[.int .u16 a0_0, .int .u16 a0_1, .int .u16 a0_2, .int .u16 a0_3, .int .u16 a0_4, .int .u8 a0_5, .int .u8 a0_6, .int .u32 a0_7, .int .u32 a0_8, .bool a0_9] 34 (0, 0)) (by (with_reducible repeat (first | refine blk_drewN ?_ _ | refine blk_drew ?_ | refine blk_alloc ?_ _)); exact BK111.out)) : gb125 ≠ gb111))
            clear HO115
            clear BK111
            clear HB
            have HO115 := n0_
            have BK111 := n1_
            have HB := n2_
            have BK125 := n3_
            have GW125 := n4_
            have GE125 := n5_
            have NB111_125 := n6_
            have NB125_111 := n7_
            clear n0_ n1_ n2_ n3_ n4_ n5_ n6_ n7_
            clear hb hbox hg
            obtain ⟨Ao16, co16, eo16⟩ := Kd.R_slice HO115.out
            (first | subst eo16 | (injection eo16 with f1_ f2_ f3_; have f4_ := f1_.symm; have f5_ := f3_.symm; clear f1_ f2_ f3_; subst f4_; subst f5_))
            refine hK.out _ _ ⟨(blk_cell BK111.out 0).trans rfl, (blk_cell BK111.out 1).trans rfl, (blk_cell BK111.out 2).trans rfl, (blk_cell BK111.out 3).trans rfl, (blk_cell BK111.out 4).trans rfl, (blk_cell BK111.out 5).trans rfl, (blk_cell BK111.out 6).trans rfl, (blk_cell BK111.out 7).trans rfl, (blk_cell BK111.out 8).trans rfl, (blk_cell BK111.out 9).trans rfl⟩ (fun hHeld => ?_)
            clear hK K
            refine norm_ (a' := ?_) ?_ ?_
            rotate_left
            · show Act.put _ (some 5) _ = _
              simp only [Act.put, List.setIfInBounds_toArray, List.set_cons_zero, List.set_cons_succ, i64_w, i32_w]
              rfl
            refine one_ (i := 3) (N := some 20) #[true, true, true, true, false, false, false, false, false, true, false, false, false, false] rfl rfl (one_of HT_.out (by kernel_rfl)) (by decide) (fun K hK => ?_)
            refine goes_ Tryd.func13 (by kernel_rfl) rfl #[.agg #[.int .u16 a0_0, .int .u16 a0_1, .int .u16 a0_2, .int .u16 a0_3, .int .u16 a0_4, .int .u8 a0_5, .int .u8 a0_6, .int .u32 a0_7, .int .u32 a0_8, .bool a0_9], .slice Ao16 t113.length co16] (by rfl) rfl rfl (by (try simp only [List.map_toArray, List.map_cons, List.map_nil]); first | done | rfl | (simp only [List.length_drop, List.length_take]; rfl)) ?_
            with_reducible refine (impl_DataRead.calls a0_0 a0_1 a0_2 a0_3 a0_4 a0_5 a0_6 a0_7 a0_8 a0_9 _ _ t113 t116 t117 t118 t119 t120 t121 t124 _ ?side1 ?side2 A10.out).mono ?_
            (case side1 => repeat (first | exact (Kd.R_reads' HO115.out).2.2 | (with_reducible refine Kd.C_alloc ?_ _) | (with_reducible refine Kd.C_drewN ?_ _) | (with_reducible refine Kd.C_drew ?_)))
            (case side2 => exact (Kd.R_reads' HO115.out).2.1)
            rintro e w17 ⟨v122, rfl, ho0, hb⟩
            refine ⟨_, rfl, ?_⟩
            have n0_ := Aside0.mk (Kd.R_elder' (by (with_reducible repeat (first | apply Kd.R_alloc | apply Kd.R_drewN | apply Kd.R_drew)); exact HO115.out) (Kd.R_base ho0) hb)
            have n1_ := Aside0.mk (Kd.R_lower (Kd.R_new' ho0 (Kd.R_lt (by (with_reducible repeat (first | apply Kd.R_alloc | apply Kd.R_drewN | apply Kd.R_drew)); exact HO115.out))) (below_size (by repeat (first | (with_reducible first | exact HB.out | apply below_alloc | apply pw_below_drewN | apply below_drew1 | refine below_set ?_ GE111.out | refine below_set ?_ GE125.out) | exact HB.out))))
            have n2_ := Aside0.mk (blk_below (g := gb111) (o := .cells #[.int .u16 a0_0, .int .u16 a0_1, .int .u16 a0_2, .int .u16 a0_3, .int .u16 a0_4, .int .u8 a0_5, .int .u8 a0_6, .int .u32 a0_7, .int .u32 a0_8, .bool a0_9] 34 (0, 0)) (by (with_reducible repeat (first | refine blk_drewN ?_ _ | refine blk_drew ?_ | refine blk_alloc ?_ _)); exact BK111.out) hb)
            have n3_ := Aside0.mk (blk_below (g := gb125) (o := .cells #[.int .u32 0, .int .u8 0, .int .u8 0, .int .u16 0] 28 (0, 0)) (by (with_reducible repeat (first | refine blk_drewN ?_ _ | refine blk_drew ?_ | refine blk_alloc ?_ _)); exact BK125.out) hb)
            have n4_ := Aside0.mk (below_step (by repeat (first | (with_reducible first | exact HB.out | apply below_alloc | apply pw_below_drewN | apply below_drew1 | refine below_set ?_ GE111.out | refine below_set ?_ GE125.out) | exact HB.out)) hb)
            clear HO115
            clear BK111
            clear BK125
            clear HB
            have HO115 := n0_
            have HO123 := n1_
            have BK111 := n2_
            have BK125 := n3_
            have HB := n4_
            clear n0_ n1_ n2_ n3_ n4_
            (try clear hb)
            (try clear hb2)
            (try clear hk)
            (try clear hi)
            (try clear ho0)
            refine hK.out _ _ ⟨(blk_cell BK111.out 0).trans rfl, (blk_cell BK111.out 1).trans rfl, (blk_cell BK111.out 2).trans rfl, (blk_cell BK111.out 3).trans rfl, (blk_cell BK111.out 4).trans rfl, (blk_cell BK111.out 5).trans rfl, (blk_cell BK111.out 6).trans rfl, (blk_cell BK111.out 7).trans rfl, (blk_cell BK111.out 8).trans rfl, (blk_cell BK111.out 9).trans rfl⟩ (fun hHeld => ?_)
            clear hK K
            refine norm_ (a' := ?_) ?_ ?_
            rotate_left
            · show Act.put _ (some 20) _ = _
              simp only [Act.put, List.setIfInBounds_toArray, List.set_cons_zero, List.set_cons_succ, i64_w, i32_w]
              rfl
            refine pure_ (i := 4) (N := some 16) (v := ?_) (a' := ?_) #[true, true, true, true, true, false, false, false, false, true, false, false, false, false] rfl rfl (any_of HT_.out (by kernel_rfl)) (fun _ _ _ h => h) (Or.inl ⟨by rfl, ?_⟩) ?_ ?_
            rotate_left
            · intro w'
              go_simp
              with_reducible rfl
            rotate_left
            · simp only [Act.put, List.setIfInBounds_toArray, List.set_cons_zero, List.set_cons_succ, i64_w, i32_w]
              rfl
            refine pure_ (i := 5) (N := some 21) (v := ?_) (a' := ?_) #[true, true, true, true, true, true, false, false, false, true, false, false, false, false] rfl rfl (any_of HT_.out (by kernel_rfl)) (fun _ _ _ h => h) (Or.inl ⟨by rfl, ?_⟩) ?_ ?_
            rotate_left
            · intro w'
              go_simp
              with_reducible rfl
            rotate_left
            · simp only [Act.put, List.setIfInBounds_toArray, List.set_cons_zero, List.set_cons_succ, i64_w, i32_w]
              rfl
            refine pure_ (i := 6) (N := some 22) (v := ?_) (a' := ?_) #[true, true, true, true, true, true, true, false, false, true, false, false, false, false] rfl rfl (any_of HT_.out (by kernel_rfl)) (fun _ _ _ h => h) (Or.inl ⟨by rfl, ?_⟩) ?_ ?_
            rotate_left
            · intro w'
              go_simp
              with_reducible rfl
            rotate_left
            · simp only [Act.put, List.setIfInBounds_toArray, List.set_cons_zero, List.set_cons_succ, i64_w, i32_w]
              rfl
            refine pure_ (i := 7) (N := some 23) (v := ?_) (a' := ?_) #[true, true, true, true, true, true, true, true, false, true, false, false, false, false] rfl rfl (any_of HT_.out (by kernel_rfl)) (fun _ _ _ h => h) (Or.inl ⟨by rfl, ?_⟩) ?_ ?_
            rotate_left
            · intro w'
              go_simp
              with_reducible rfl
            rotate_left
            · simp only [Act.put, List.setIfInBounds_toArray, List.set_cons_zero, List.set_cons_succ, i64_w, i32_w]
              rfl
            refine pure_ (i := 8) (N := some 24) (v := ?_) (a' := ?_) #[true, true, true, true, true, true, true, true, true, true, false, false, false, false] rfl rfl (any_of HT_.out (by kernel_rfl)) (fun _ _ _ h => h) (Or.inl ⟨by rfl, ?_⟩) ?_ ?_
            rotate_left
            · intro w'
              go_simp
              with_reducible rfl
            rotate_left
            · simp only [Act.put, List.setIfInBounds_toArray, List.set_cons_zero, List.set_cons_succ, i64_w, i32_w]
              rfl
            exact norm_ (by simp only [putAll, Act.put, List.setIfInBounds_toArray, List.set_cons_zero, List.set_cons_succ]) (hCont (.slice Ao16 t113.length co16, v122, gb125) _ ⟨hHeld, (by (with_reducible repeat (first | apply Kd.R_alloc | apply Kd.R_drewN | apply Kd.R_drew)); exact Kd.R_mono HO115.out (fun _ hk => hk.2)), (by (with_reducible repeat (first | apply Kd.R_alloc | apply Kd.R_drewN | apply Kd.R_drew)); exact Kd.R_mono HO123.out (fun _ hk => hk.2)), (by (with_reducible repeat (first | refine blk_drewN ?_ _ | refine blk_drew ?_ | refine blk_alloc ?_ _)); exact BK111.out), (by (with_reducible repeat (first | refine blk_drewN ?_ _ | refine blk_drew ?_ | refine blk_alloc ?_ _)); exact BK125.out), GW125.out, GE125.out, NB111_125.out, NB125_111.out, (by repeat (first | (with_reducible first | exact HB.out | apply below_alloc | apply pw_below_drewN | apply below_drew1 | refine below_set ?_ GE111.out | refine below_set ?_ GE125.out) | exact HB.out))⟩)
        · skip
          refine box_step ?hg (N := 5) ?hd (cs := #[.int .u32 0, .int .u8 0, .int .u8 0, .int .u16 0]) (t := 28) ?hr ?_; (case hd => rfl); (case hg => rfl); (case hr => first | (go_simp; done) | (go_simp; rfl))
          intro gb125 hg w14 hbox hb
          have n0_ := Aside0.mk (blk_below (g := gb111) (o := .cells #[.int .u16 a0_0, .int .u16 a0_1, .int .u16 a0_2, .int .u16 a0_3, .int .u16 a0_4, .int .u8 a0_5, .int .u8 a0_6, .int .u32 a0_7, .int .u32 a0_8, .bool a0_9] 34 (0, 0)) (by (with_reducible repeat (first | refine blk_drewN ?_ _ | refine blk_drew ?_ | refine blk_alloc ?_ _)); exact BK111.out) hb)
          have n1_ := Aside0.mk (below_step (by repeat (first | (with_reducible first | exact HB.out | apply below_alloc | apply pw_below_drewN | apply below_drew1 | refine below_set ?_ GE111.out) | exact HB.out)) hb)
          have n2_ := Aside0.mk (hbox)
          have n3_ := Aside0.mk ((by rw [hg]; exact (below_size (by repeat (first | (with_reducible first | exact HB.out | apply below_alloc | apply pw_below_drewN | apply below_drew1 | refine below_set ?_ GE111.out) | exact HB.out))) : w.heap.size ≤ gb125))
          have n4_ := Aside0.mk ((by rw [hg]; exact (below_size (by repeat (first | (with_reducible first | exact HB.out | apply below_alloc | apply pw_below_drewN | apply below_drew1 | refine below_set ?_ GE111.out) | exact HB.out))) : w.heap.size ≤ gb125))
          have n5_ := Aside0.mk ((by rw [hg]; exact Nat.ne_of_lt (blk_lt (g := gb111) (o := .cells #[.int .u16 a0_0, .int .u16 a0_1, .int .u16 a0_2, .int .u16 a0_3, .int .u16 a0_4, .int .u8 a0_5, .int .u8 a0_6, .int .u32 a0_7, .int .u32 a0_8, .bool a0_9] 34 (0, 0)) (by (with_reducible repeat (first | refine blk_drewN ?_ _ | refine blk_drew ?_ | refine blk_alloc ?_ _)); exact BK111.out)) : gb111 ≠ gb125))
          have n6_ := Aside0.mk ((by rw [hg]; exact Nat.ne_of_gt (blk_lt (g := gb111) (o := .cells #[.int .u16 a0_0, .int .u16 a0_1, .int .u16 a0_2, .int .u16 a0_3, .int .u16 a0_4, .int .u8 a0_5, .int .u8 a0_6, .int .u32 a0_7, .int .u32 a0_8, .bool a0_9] 34 (0, 0)) (by (with_reducible repeat (first | refine blk_drewN ?_ _ | refine blk_drew ?_ | refine blk_alloc ?_ _)); exact BK111.out)) : gb125 ≠ gb111))
          clear BK111
          clear HB
          have BK111 := n0_
          have HB := n1_
          have BK125 := n2_
          have GW125 := n3_
          have GE125 := n4_
          have NB111_125 := n5_
          have NB125_111 := n6_
          clear n0_ n1_ n2_ n3_ n4_ n5_ n6_
          clear hb hbox hg
          refine hK.out _ _ ⟨(blk_cell BK111.out 0).trans rfl, (blk_cell BK111.out 1).trans rfl, (blk_cell BK111.out 2).trans rfl, (blk_cell BK111.out 3).trans rfl, (blk_cell BK111.out 4).trans rfl, (blk_cell BK111.out 5).trans rfl, (blk_cell BK111.out 6).trans rfl, (blk_cell BK111.out 7).trans rfl, (blk_cell BK111.out 8).trans rfl, (blk_cell BK111.out 9).trans rfl⟩ (fun hHeld => ?_)
          clear hK K
          refine norm_ (a' := ?_) ?_ ?_
          rotate_left
          · show Act.put _ (some 5) _ = _
            simp only [Act.put, List.setIfInBounds_toArray, List.set_cons_zero, List.set_cons_succ, i64_w, i32_w]
            rfl
          refine one_ (i := 2) (N := some 19) #[true, true, true, false, false, false, false, false, false, true, false, false, false, false] rfl rfl (one_of HT_.out (by kernel_rfl)) (by decide) (fun K hK => ?_)
          refine goes_ Tryd.func12 (by kernel_rfl) rfl #[.slice A1 l1.length c1] (by rfl) rfl rfl (by (try simp only [List.map_toArray, List.map_cons, List.map_nil]); first | done | rfl | (simp only [List.length_drop, List.length_take]; rfl)) ?_
          with_reducible refine (bytes_Clone.calls _ _ l1 t113 _ ?side1 ?side2 A9.out).mono ?_
          (case side1 => repeat (first | exact (Kd.C_below HR1.out HB.out) | (with_reducible refine Kd.C_alloc ?_ _) | (with_reducible refine Kd.C_drewN ?_ _) | (with_reducible refine Kd.C_drew ?_)))
          (case side2 => exact HC1.out)
          rintro e w15 ⟨v114, rfl, ho0, hb⟩
          refine ⟨_, rfl, ?_⟩
          have n0_ := Aside0.mk (Kd.R_lower ho0 (below_size (by repeat (first | (with_reducible first | exact HB.out | apply below_alloc | apply pw_below_drewN | apply below_drew1 | refine below_set ?_ GE111.out | refine below_set ?_ GE125.out) | exact HB.out))))
          have n1_ := Aside0.mk (blk_below (g := gb111) (o := .cells #[.int .u16 a0_0, .int .u16 a0_1, .int .u16 a0_2, .int .u16 a0_3, .int .u16 a0_4, .int .u8 a0_5, .int .u8 a0_6, .int .u32 a0_7, .int .u32 a0_8, .bool a0_9] 34 (0, 0)) (by (with_reducible repeat (first | refine blk_drewN ?_ _ | refine blk_drew ?_ | refine blk_alloc ?_ _)); exact BK111.out) hb)
          have n2_ := Aside0.mk (blk_below (g := gb125) (o := .cells #[.int .u32 0, .int .u8 0, .int .u8 0, .int .u16 0] 28 (0, 0)) (by (with_reducible repeat (first | refine blk_drewN ?_ _ | refine blk_drew ?_ | refine blk_alloc ?_ _)); exact BK125.out) hb)
          have n3_ := Aside0.mk (below_step (by repeat (first | (with_reducible first | exact HB.out | apply below_alloc | apply pw_below_drewN | apply below_drew1 | refine below_set ?_ GE111.out | refine below_set ?_ GE125.out) | exact HB.out)) hb)
          clear BK111
          clear BK125
          clear HB
          have HO115 := n0_
          have BK111 := n1_
          have BK125 := n2_
          have HB := n3_
          clear n0_ n1_ n2_ n3_
          (try clear hb)
          (try clear hb2)
          (try clear hk)
          (try clear hi)
          (try clear ho0)
          obtain ⟨Ao16, co16, eo16⟩ := Kd.R_slice HO115.out
          (first | subst eo16 | (injection eo16 with f1_ f2_ f3_; have f4_ := f1_.symm; have f5_ := f3_.symm; clear f1_ f2_ f3_; subst f4_; subst f5_))
          refine hK.out _ _ ⟨(blk_cell BK111.out 0).trans rfl, (blk_cell BK111.out 1).trans rfl, (blk_cell BK111.out 2).trans rfl, (blk_cell BK111.out 3).trans rfl, (blk_cell BK111.out 4).trans rfl, (blk_cell BK111.out 5).trans rfl, (blk_cell BK111.out 6).trans rfl, (blk_cell BK111.out 7).trans rfl, (blk_cell BK111.out 8).trans rfl, (blk_cell BK111.out 9).trans rfl⟩ (fun hHeld => ?_)
          clear hK K
          refine norm_ (a' := ?_) ?_ ?_
          rotate_left
          · show Act.put _ (some 19) _ = _
            simp only [Act.put, List.setIfInBounds_toArray, List.set_cons_zero, List.set_cons_succ, i64_w, i32_w]
            rfl
          refine one_ (i := 3) (N := some 20) #[true, true, true, true, false, false, false, false, false, true, false, false, false, false] rfl rfl (one_of HT_.out (by kernel_rfl)) (by decide) (fun K hK => ?_)
          refine goes_ Tryd.func13 (by kernel_rfl) rfl #[.agg #[.int .u16 a0_0, .int .u16 a0_1, .int .u16 a0_2, .int .u16 a0_3, .int .u16 a0_4, .int .u8 a0_5, .int .u8 a0_6, .int .u32 a0_7, .int .u32 a0_8, .bool a0_9], .slice Ao16 t113.length co16] (by rfl) rfl rfl (by (try simp only [List.map_toArray, List.map_cons, List.map_nil]); first | done | rfl | (simp only [List.length_drop, List.length_take]; rfl)) ?_
          with_reducible refine (impl_DataRead.calls a0_0 a0_1 a0_2 a0_3 a0_4 a0_5 a0_6 a0_7 a0_8 a0_9 _ _ t113 t116 t117 t118 t119 t120 t121 t124 _ ?side1 ?side2 A10.out).mono ?_
          (case side1 => repeat (first | exact (Kd.R_reads' HO115.out).2.2 | (with_reducible refine Kd.C_alloc ?_ _) | (with_reducible refine Kd.C_drewN ?_ _) | (with_reducible refine Kd.C_drew ?_)))
          (case side2 => exact (Kd.R_reads' HO115.out).2.1)
          rintro e w17 ⟨v122, rfl, ho0, hb⟩
          refine ⟨_, rfl, ?_⟩
          have n0_ := Aside0.mk (Kd.R_elder' (by (with_reducible repeat (first | apply Kd.R_alloc | apply Kd.R_drewN | apply Kd.R_drew)); exact HO115.out) (Kd.R_base ho0) hb)
          have n1_ := Aside0.mk (Kd.R_lower (Kd.R_new' ho0 (Kd.R_lt (by (with_reducible repeat (first | apply Kd.R_alloc | apply Kd.R_drewN | apply Kd.R_drew)); exact HO115.out))) (below_size (by repeat (first | (with_reducible first | exact HB.out | apply below_alloc | apply pw_below_drewN | apply below_drew1 | refine below_set ?_ GE111.out | refine below_set ?_ GE125.out) | exact HB.out))))
          have n2_ := Aside0.mk (blk_below (g := gb111) (o := .cells #[.int .u16 a0_0, .int .u16 a0_1, .int .u16 a0_2, .int .u16 a0_3, .int .u16 a0_4, .int .u8 a0_5, .int .u8 a0_6, .int .u32 a0_7, .int .u32 a0_8, .bool a0_9] 34 (0, 0)) (by (with_reducible repeat (first | refine blk_drewN ?_ _ | refine blk_drew ?_ | refine blk_alloc ?_ _)); exact BK111.out) hb)
          have n3_ := Aside0.mk (blk_below (g := gb125) (o := .cells #[.int .u32 0, .int .u8 0, .int .u8 0, .int .u16 0] 28 (0, 0)) (by (with_reducible repeat (first | refine blk_drewN ?_ _ | refine blk_drew ?_ | refine blk_alloc ?_ _)); exact BK125.out) hb)
          have n4_ := Aside0.mk (below_step (by repeat (first | (with_reducible first | exact HB.out | apply below_alloc | apply pw_below_drewN | apply below_drew1 | refine below_set ?_ GE111.out | refine below_set ?_ GE125.out) | exact HB.out)) hb)
          clear HO115
          clear BK111
          clear BK125
          clear HB
          have HO115 := n0_
          have HO123 := n1_
          have BK111 := n2_
          have BK125 := n3_
          have HB := n4_
          clear n0_ n1_ n2_ n3_ n4_
          (try clear hb)
          (try clear hb2)
          (try clear hk)
          (try clear hi)
          (try clear ho0)
          refine hK.out _ _ ⟨(blk_cell BK111.out 0).trans rfl, (blk_cell BK111.out 1).trans rfl, (blk_cell BK111.out 2).trans rfl, (blk_cell BK111.out 3).trans rfl, (blk_cell BK111.out 4).trans rfl, (blk_cell BK111.out 5).trans rfl, (blk_cell BK111.out 6).trans rfl, (blk_cell BK111.out 7).trans rfl, (blk_cell BK111.out 8).trans rfl, (blk_cell BK111.out 9).trans rfl⟩ (fun hHeld => ?_)
          clear hK K
          refine norm_ (a' := ?_) ?_ ?_
          rotate_left
          · show Act.put _ (some 20) _ = _
            simp only [Act.put, List.setIfInBounds_toArray, List.set_cons_zero, List.set_cons_succ, i64_w, i32_w]
            rfl
          refine pure_ (i := 4) (N := some 16) (v := ?_) (a' := ?_) #[true, true, true, true, true, false, false, false, false, true, false, false, false, false] rfl rfl (any_of HT_.out (by kernel_rfl)) (fun _ _ _ h => h) (Or.inl ⟨by rfl, ?_⟩) ?_ ?_
          rotate_left
          · intro w'
            go_simp
            with_reducible rfl
          rotate_left
          · simp only [Act.put, List.setIfInBounds_toArray, List.set_cons_zero, List.set_cons_succ, i64_w, i32_w]
            rfl
          refine pure_ (i := 5) (N := some 21) (v := ?_) (a' := ?_) #[true, true, true, true, true, true, false, false, false, true, false, false, false, false] rfl rfl (any_of HT_.out (by kernel_rfl)) (fun _ _ _ h => h) (Or.inl ⟨by rfl, ?_⟩) ?_ ?_
          rotate_left
          · intro w'
            go_simp
            with_reducible rfl
          rotate_left
          · simp only [Act.put, List.setIfInBounds_toArray, List.set_cons_zero, List.set_cons_succ, i64_w, i32_w]
            rfl
          refine pure_ (i := 6) (N := some 22) (v := ?_) (a' := ?_) #[true, true, true, true, true, true, true, false, false, true, false, false, false, false] rfl rfl (any_of HT_.out (by kernel_rfl)) (fun _ _ _ h => h) (Or.inl ⟨by rfl, ?_⟩) ?_ ?_
          rotate_left
          · intro w'
            go_simp
            with_reducible rfl
          rotate_left
          · simp only [Act.put, List.setIfInBounds_toArray, List.set_cons_zero, List.set_cons_succ, i64_w, i32_w]
            rfl
          refine pure_ (i := 7) (N := some 23) (v := ?_) (a' := ?_) #[true, true, true, true, true, true, true, true, false, true, false, false, false, false] rfl rfl (any_of HT_.out (by kernel_rfl)) (fun _ _ _ h => h) (Or.inl ⟨by rfl, ?_⟩) ?_ ?_
          rotate_left
          · intro w'
            go_simp
            with_reducible rfl
          rotate_left
          · simp only [Act.put, List.setIfInBounds_toArray, List.set_cons_zero, List.set_cons_succ, i64_w, i32_w]
            rfl
          refine pure_ (i := 8) (N := some 24) (v := ?_) (a' := ?_) #[true, true, true, true, true, true, true, true, true, true, false, false, false, false] rfl rfl (any_of HT_.out (by kernel_rfl)) (fun _ _ _ h => h) (Or.inl ⟨by rfl, ?_⟩) ?_ ?_
          rotate_left
          · intro w'
            go_simp
            with_reducible rfl
          rotate_left
          · simp only [Act.put, List.setIfInBounds_toArray, List.set_cons_zero, List.set_cons_succ, i64_w, i32_w]
            rfl
          exact norm_ (by simp only [putAll, Act.put, List.setIfInBounds_toArray, List.set_cons_zero, List.set_cons_succ]) (hCont (.slice Ao16 t113.length co16, v122, gb125) _ ⟨hHeld, (by (with_reducible repeat (first | apply Kd.R_alloc | apply Kd.R_drewN | apply Kd.R_drew)); exact Kd.R_mono HO115.out (fun _ hk => hk.2)), (by (with_reducible repeat (first | apply Kd.R_alloc | apply Kd.R_drewN | apply Kd.R_drew)); exact Kd.R_mono HO123.out (fun _ hk => hk.2)), (by (with_reducible repeat (first | refine blk_drewN ?_ _ | refine blk_drew ?_ | refine blk_alloc ?_ _)); exact BK111.out), (by (with_reducible repeat (first | refine blk_drewN ?_ _ | refine blk_drew ?_ | refine blk_alloc ?_ _)); exact BK125.out), GW125.out, GE125.out, NB111_125.out, NB125_111.out, (by repeat (first | (with_reducible first | exact HB.out | apply below_alloc | apply pw_below_drewN | apply below_drew1 | refine below_set ?_ GE111.out | refine below_set ?_ GE125.out) | exact HB.out))⟩)
      rintro ⟨v114, v122, gb125⟩ w18 ⟨hS_, h0_, h1_, h2_, h3_, h4_, h5_, h6_, h7_, h8_⟩
      have n0_ : Aside0 (Kd.R (Kd.int .u8) 5 w18 w.heap.size (fun k_ => some k_ ≠ (v122 : Value).ownBlock) v114 t113) := ⟨h0_⟩
      have n1_ : Aside0 (Kd.R (Kd.int .u8) 5 w18 w.heap.size (fun k_ => some k_ ≠ (v114 : Value).ownBlock) v122 t121) := ⟨h1_⟩
      have n2_ : Aside0 (w18.heap[gb111]? = some (.cells #[.int .u16 a0_0, .int .u16 a0_1, .int .u16 a0_2, .int .u16 a0_3, .int .u16 a0_4, .int .u8 a0_5, .int .u8 a0_6, .int .u32 a0_7, .int .u32 a0_8, .bool a0_9] 34 (0, 0))) := ⟨h2_⟩
      have n3_ : Aside0 (w18.heap[gb125]? = some (.cells #[.int .u32 0, .int .u8 0, .int .u8 0, .int .u16 0] 28 (0, 0))) := ⟨h3_⟩
      have n4_ : Aside0 (w.heap.size ≤ gb125) := ⟨h4_⟩
      have n5_ : Aside0 (w.heap.size ≤ gb125) := ⟨h5_⟩
      have n6_ : Aside0 (gb111 ≠ gb125) := ⟨h6_⟩
      have n7_ : Aside0 (gb125 ≠ gb111) := ⟨h7_⟩
      have n8_ : Aside0 (Below w.heap.size w w18) := ⟨h8_⟩
      clear BK111
      clear HB
      clear h0_ h1_ h2_ h3_ h4_ h5_ h6_ h7_ h8_
      have HO115 := n0_
      have HO123 := n1_
      have BK111 := n2_
      have BK125 := n3_
      have GW125 := n4_
      have GE125 := n5_
      have NB111_125 := n6_
      have NB125_111 := n7_
      have HB := n8_
      clear n0_ n1_ n2_ n3_ n4_ n5_ n6_ n7_ n8_
      have hHeld : w18.cell? ⟨gb111, 0, none⟩ = some (.int .u16 a0_0) ∧ w18.cell? ⟨gb111, 1, none⟩ = some (.int .u16 a0_1) ∧ w18.cell? ⟨gb111, 2, none⟩ = some (.int .u16 a0_2) ∧ w18.cell? ⟨gb111, 3, none⟩ = some (.int .u16 a0_3) ∧ w18.cell? ⟨gb111, 4, none⟩ = some (.int .u16 a0_4) ∧ w18.cell? ⟨gb111, 5, none⟩ = some (.int .u8 a0_5) ∧ w18.cell? ⟨gb111, 6, none⟩ = some (.int .u8 a0_6) ∧ w18.cell? ⟨gb111, 7, none⟩ = some (.int .u32 a0_7) ∧ w18.cell? ⟨gb111, 8, none⟩ = some (.int .u32 a0_8) ∧ w18.cell? ⟨gb111, 9, none⟩ = some (.bool a0_9) := hS_
      refine norm_ (a' := ?_) ?_ ?_
      rotate_left
      · simp only [putAll, Act.put, List.setIfInBounds_toArray, List.set_cons_zero, List.set_cons_succ]
        rfl
      refine one_ (i := 10) (N := none) #[true, true, true, true, true, true, true, true, true, true, true, false, false, false] rfl rfl (one_of HT_.out (by kernel_rfl)) (by decide) (fun K hK => ?_)
      have hs19 : w18.cell? ⟨gb125, 0, none⟩ = some (.int .u32 0) := (blk_cell BK125.out 0).trans rfl
      have hfs19 := blk_frozen BK125.out 0
      have hns19_0 := NB111_125.out
      have hms19_0 := NB125_111.out
      have hs20 : w18.cell? ⟨gb125, 1, none⟩ = some (.int .u8 0) := (blk_cell BK125.out 1).trans rfl
      have hfs20 := blk_frozen BK125.out 1
      have hns20_0 := NB111_125.out
      have hms20_0 := NB125_111.out
      have hs21 : w18.cell? ⟨gb125, 2, none⟩ = some (.int .u8 0) := (blk_cell BK125.out 2).trans rfl
      have hfs21 := blk_frozen BK125.out 2
      have hns21_0 := NB111_125.out
      have hms21_0 := NB125_111.out
      have hs22 : w18.cell? ⟨gb125, 3, none⟩ = some (.int .u16 0) := (blk_cell BK125.out 3).trans rfl
      have hfs22 := blk_frozen BK125.out 3
      have hns22_0 := NB111_125.out
      have hms22_0 := NB125_111.out
      refine skip_ (w1 := ?_) (by rfl) rfl ?_ ?_
      rotate_left
      · go_simp
        rfl
      refine hK.out _ _ ⟨((cell_far (p := ⟨gb125, _, none⟩) NB111_125.out _).trans (((cell_far (p := ⟨gb125, _, none⟩) NB111_125.out _).trans (((cell_far (p := ⟨gb125, _, none⟩) NB111_125.out _).trans (((cell_far (p := ⟨gb125, _, none⟩) NB111_125.out _).trans (hHeld.1)))))))), ((cell_far (p := ⟨gb125, _, none⟩) NB111_125.out _).trans (((cell_far (p := ⟨gb125, _, none⟩) NB111_125.out _).trans (((cell_far (p := ⟨gb125, _, none⟩) NB111_125.out _).trans (((cell_far (p := ⟨gb125, _, none⟩) NB111_125.out _).trans (hHeld.2.1)))))))), ((cell_far (p := ⟨gb125, _, none⟩) NB111_125.out _).trans (((cell_far (p := ⟨gb125, _, none⟩) NB111_125.out _).trans (((cell_far (p := ⟨gb125, _, none⟩) NB111_125.out _).trans (((cell_far (p := ⟨gb125, _, none⟩) NB111_125.out _).trans (hHeld.2.2.1)))))))), ((cell_far (p := ⟨gb125, _, none⟩) NB111_125.out _).trans (((cell_far (p := ⟨gb125, _, none⟩) NB111_125.out _).trans (((cell_far (p := ⟨gb125, _, none⟩) NB111_125.out _).trans (((cell_far (p := ⟨gb125, _, none⟩) NB111_125.out _).trans (hHeld.2.2.2.1)))))))), ((cell_far (p := ⟨gb125, _, none⟩) NB111_125.out _).trans (((cell_far (p := ⟨gb125, _, none⟩) NB111_125.out _).trans (((cell_far (p := ⟨gb125, _, none⟩) NB111_125.out _).trans (((cell_far (p := ⟨gb125, _, none⟩) NB111_125.out _).trans (hHeld.2.2.2.2.1)))))))), ((cell_far (p := ⟨gb125, _, none⟩) NB111_125.out _).trans (((cell_far (p := ⟨gb125, _, none⟩) NB111_125.out _).trans (((cell_far (p := ⟨gb125, _, none⟩) NB111_125.out _).trans (((cell_far (p := ⟨gb125, _, none⟩) NB111_125.out _).trans (hHeld.2.2.2.2.2.1)))))))), ((cell_far (p := ⟨gb125, _, none⟩) NB111_125.out _).trans (((cell_far (p := ⟨gb125, _, none⟩) NB111_125.out _).trans (((cell_far (p := ⟨gb125, _, none⟩) NB111_125.out _).trans (((cell_far (p := ⟨gb125, _, none⟩) NB111_125.out _).trans (hHeld.2.2.2.2.2.2.1)))))))), ((cell_far (p := ⟨gb125, _, none⟩) NB111_125.out _).trans (((cell_far (p := ⟨gb125, _, none⟩) NB111_125.out _).trans (((cell_far (p := ⟨gb125, _, none⟩) NB111_125.out _).trans (((cell_far (p := ⟨gb125, _, none⟩) NB111_125.out _).trans (hHeld.2.2.2.2.2.2.2.1)))))))), ((cell_far (p := ⟨gb125, _, none⟩) NB111_125.out _).trans (((cell_far (p := ⟨gb125, _, none⟩) NB111_125.out _).trans (((cell_far (p := ⟨gb125, _, none⟩) NB111_125.out _).trans (((cell_far (p := ⟨gb125, _, none⟩) NB111_125.out _).trans (hHeld.2.2.2.2.2.2.2.2.1)))))))), ((cell_far (p := ⟨gb125, _, none⟩) NB111_125.out _).trans (((cell_far (p := ⟨gb125, _, none⟩) NB111_125.out _).trans (((cell_far (p := ⟨gb125, _, none⟩) NB111_125.out _).trans (((cell_far (p := ⟨gb125, _, none⟩) NB111_125.out _).trans (hHeld.2.2.2.2.2.2.2.2.2))))))))⟩ (fun hHeld => ?_)
      clear hK K
      refine pure_ (i := 11) (N := some 6) (v := ?_) (a' := ?_) #[true, true, true, true, true, true, true, true, true, true, true, true, false, false] rfl rfl (any_of HT_.out (by kernel_rfl)) (fun _ _ _ h => h) (Or.inl ⟨by rfl, ?_⟩) ?_ ?_
      rotate_left
      · intro w'
        go_simp
        with_reducible rfl
      rotate_left
      · simp only [Act.put, List.setIfInBounds_toArray, List.set_cons_zero, List.set_cons_succ, i64_w, i32_w]
        rfl
      refine pure_ (i := 12) (N := some 7) (v := ?_) (a' := ?_) #[true, true, true, true, true, true, true, true, true, true, true, true, true, false] rfl rfl (any_of HT_.out (by kernel_rfl)) (fun _ _ _ h => h) (Or.inl ⟨by rfl, ?_⟩) ?_ ?_
      rotate_left
      · intro w'
        go_simp
        with_reducible rfl
      rotate_left
      · simp only [Act.put, List.setIfInBounds_toArray, List.set_cons_zero, List.set_cons_succ, i64_w, i32_w]
        rfl
      refine pure_ (i := 13) (N := some 8) (v := ?_) (a' := ?_) #[true, true, true, true, true, true, true, true, true, true, true, true, true, true] rfl rfl (any_of HT_.out (by kernel_rfl)) (fun _ _ _ h => h) (Or.inl ⟨by rfl, ?_⟩) ?_ ?_
      rotate_left
      · intro w'
        go_simp
        with_reducible rfl
      rotate_left
      · simp only [Act.put, List.setIfInBounds_toArray, List.set_cons_zero, List.set_cons_succ, i64_w, i32_w]
        rfl
      refine done_ (done_of HT_.out (by kernel_rfl)) ?_
      go_upto_region 6 with (fail)
      go_cut [33] (fun v33 wc => ∃ (kq : Nat) (x33_10 : Bool), v33 = .bool x33_10 ∧ Aside0 (laws_FnPacketDataRead.j0 kq l1 t120 t121 t124 x33_10 a0_0 a0_1 a0_2 a0_3 a0_4 a0_5 a0_6 a0_7 a0_8 a0_9 t116 t117 t118 t119 = some r) ∧ Aside0 (kq ≤ k) ∧ Aside0 (Kd.R (Kd.int .u8) 5 wc w.heap.size (fun _ => True) v122 t121) ∧ Aside0 (wc.heap[gb111]? = some (.cells #[.int .u16 a0_0, .int .u16 a0_1, .int .u16 a0_2, .int .u16 a0_3, .int .u16 a0_4, .int .u8 a0_5, .int .u8 a0_6, .int .u32 a0_7, .int .u32 a0_8, .bool a0_9] 34 (0, 0))) ∧ Aside0 (wc.heap[gb125]? = some (.cells #[.int .u32 t116, .int .u8 t117, .int .u8 t118, .int .u16 t119] 28 (0, 0))) ∧ Aside0 (Below w.heap.size w wc))
      case first =>
        have H := HC11.out
        clear HC11
        by_cases c23 : (l1.length : Int) < 10
        · rw [if_pos c23] at H
          have c23b0 : decide ((l1.length : Int) < 10) = true := decide_eq_true c23
          have c23b1 : decide (l1.length < 10) = true := decide_eq_true (by omega)
          clear c23
          (first | rw [c23b0] | (simp only [i64_w, i32_w]; rw [c23b0]) | skip)
          have H' := Aside0.mk H
          clear H
          go_wp2
          go_meet
          case rel => exact ⟨_, (true), (by first | rfl | (simp; done) | (simp [*]; done)), H', ⟨by first | omega | exact Nat.le_refl _⟩, ⟨by (with_reducible repeat (first | apply Kd.R_alloc | apply Kd.R_drewN | apply Kd.R_drew)); exact Kd.R_mono (Kd.R_far (p := ⟨gb125, 3, none⟩) (Kd.R_far (p := ⟨gb125, 2, none⟩) (Kd.R_far (p := ⟨gb125, 1, none⟩) (Kd.R_far (p := ⟨gb125, 0, none⟩) (Kd.R_types HO123.out BK125.out (by decide)) (fun _ hk => hk.2) (.int .u32 t116)) (fun _ hk => hk.2) (.int .u8 t117)) (fun _ hk => hk.2) (.int .u8 t118)) (fun _ hk => hk.2) (.int .u16 t119)) (fun _ hk => trivial)⟩, ⟨by (with_reducible repeat (first | refine blk_drewN ?_ _ | refine blk_drew ?_ | refine blk_alloc ?_ _)); refine blk_far ?_ NB111_125.out _; (with_reducible repeat (first | refine blk_drewN ?_ _ | refine blk_drew ?_ | refine blk_alloc ?_ _)); refine blk_far ?_ NB111_125.out _; (with_reducible repeat (first | refine blk_drewN ?_ _ | refine blk_drew ?_ | refine blk_alloc ?_ _)); refine blk_far ?_ NB111_125.out _; (with_reducible repeat (first | refine blk_drewN ?_ _ | refine blk_drew ?_ | refine blk_alloc ?_ _)); refine blk_far ?_ NB111_125.out _; (with_reducible repeat (first | refine blk_drewN ?_ _ | refine blk_drew ?_ | refine blk_alloc ?_ _)); exact BK111.out⟩, ⟨by (with_reducible repeat (first | refine blk_drewN ?_ _ | refine blk_drew ?_ | refine blk_alloc ?_ _)); refine blk_put (cs := #[.int .u32 t116, .int .u8 t117, .int .u8 t118, .int .u16 0]) ?_ 3 _ rfl; (with_reducible repeat (first | refine blk_drewN ?_ _ | refine blk_drew ?_ | refine blk_alloc ?_ _)); refine blk_put (cs := #[.int .u32 t116, .int .u8 t117, .int .u8 0, .int .u16 0]) ?_ 2 _ rfl; (with_reducible repeat (first | refine blk_drewN ?_ _ | refine blk_drew ?_ | refine blk_alloc ?_ _)); refine blk_put (cs := #[.int .u32 t116, .int .u8 0, .int .u8 0, .int .u16 0]) ?_ 1 _ rfl; (with_reducible repeat (first | refine blk_drewN ?_ _ | refine blk_drew ?_ | refine blk_alloc ?_ _)); refine blk_put (cs := #[.int .u32 0, .int .u8 0, .int .u8 0, .int .u16 0]) ?_ 0 _ rfl; (with_reducible repeat (first | refine blk_drewN ?_ _ | refine blk_drew ?_ | refine blk_alloc ?_ _)); exact BK125.out⟩, ⟨by repeat (first | (with_reducible first | exact HB.out | apply below_alloc | apply pw_below_drewN | apply below_drew1 | refine below_set ?_ GE111.out | refine below_set ?_ GE125.out) | exact HB.out)⟩⟩
        · rw [if_neg c23] at H
          have c23b0 : decide ((l1.length : Int) < 10) = false := decide_eq_false c23
          have c23b1 : decide (l1.length < 10) = false := decide_eq_false (by omega)
          clear c23
          (first | rw [c23b0] | (simp only [i64_w, i32_w]; rw [c23b0]) | skip)
          by_cases c24 : 4 < (l1.length : Int)
          · rw [if_pos c24] at H
            have c24b0 : decide (4 < (l1.length : Int)) = true := decide_eq_true c24
            have c24b1 : decide (4 < l1.length) = true := decide_eq_true (by omega)
            clear c24
            have H' := Aside0.mk H
            clear H
            have p126 : 0 ≤ (4 : Int) := (by omega)
            have q126 : 4 < (l1.length : Int) := of_decide_eq_true (by first | (with_reducible assumption) | assumption)
            obtain ⟨ad126, e126, hx126_0⟩ := Kd.at_int HR1.out 4 p126 q126
            cases e126
            (try simp only [show (4 : Int).toNat = 4 from rfl, Nat.reduceMul, Nat.reduceEqDiff, Go.Addr.add, ↓reduceIte] at hx126_0)
            have qi126 : (4 < l1.length) = True := eq_true (by omega)
            (try rw [show ((4 : Int)).toNat = 4 from rfl] at hx126_0)
            have hn126_0 : ad126.block ≠ gb125 := Nat.ne_of_lt (Nat.lt_of_lt_of_le (by have := World.block_lt_of_cell? _ _ hx126_0; first | rwa [add_block] at this | exact this) GW125.out)
            have hn126_1 : ad126.block ≠ gb125 := Nat.ne_of_lt (Nat.lt_of_lt_of_le (by have := World.block_lt_of_cell? _ _ hx126_0; first | rwa [add_block] at this | exact this) GW125.out)
            have hn126_2 : ad126.block ≠ gb125 := Nat.ne_of_lt (Nat.lt_of_lt_of_le (by have := World.block_lt_of_cell? _ _ hx126_0; first | rwa [add_block] at this | exact this) GW125.out)
            have hn126_3 : ad126.block ≠ gb125 := Nat.ne_of_lt (Nat.lt_of_lt_of_le (by have := World.block_lt_of_cell? _ _ hx126_0; first | rwa [add_block] at this | exact this) GW125.out)
            replace hx126_0 := (HB.out.cell (World.block_lt_of_cell? w _ hx126_0)).trans hx126_0
            replace hx126_0 := (cell_far (p := ⟨gb125, 0, none⟩) (by first | (rw [add_block]; exact hn126_0) | (show (Addr.add _ _).block ≠ _; rw [add_block]; exact hn126_0) | exact hn126_0) (.int .u32 t116)).trans hx126_0
            replace hx126_0 := (cell_far (p := ⟨gb125, 1, none⟩) (by first | (rw [add_block]; exact hn126_1) | (show (Addr.add _ _).block ≠ _; rw [add_block]; exact hn126_1) | exact hn126_1) (.int .u8 t117)).trans hx126_0
            replace hx126_0 := (cell_far (p := ⟨gb125, 2, none⟩) (by first | (rw [add_block]; exact hn126_2) | (show (Addr.add _ _).block ≠ _; rw [add_block]; exact hn126_2) | exact hn126_2) (.int .u8 t118)).trans hx126_0
            replace hx126_0 := (cell_far (p := ⟨gb125, 3, none⟩) (by first | (rw [add_block]; exact hn126_3) | (show (Addr.add _ _).block ≠ _; rw [add_block]; exact hn126_3) | exact hn126_3) (.int .u16 t119)).trans hx126_0
            clear hn126_0
            clear hn126_1
            clear hn126_2
            clear hn126_3
            replace p126 := eq_true p126
            replace q126 := eq_true q126
            go_wp2
            go_meet
            case rel => exact ⟨_, (((rd l1 4) != 6)), (by first | rfl | (simp; done) | (simp [*]; done)), H', ⟨by first | omega | exact Nat.le_refl _⟩, ⟨by (with_reducible repeat (first | apply Kd.R_alloc | apply Kd.R_drewN | apply Kd.R_drew)); exact Kd.R_mono (Kd.R_far (p := ⟨gb125, 3, none⟩) (Kd.R_far (p := ⟨gb125, 2, none⟩) (Kd.R_far (p := ⟨gb125, 1, none⟩) (Kd.R_far (p := ⟨gb125, 0, none⟩) (Kd.R_types HO123.out BK125.out (by decide)) (fun _ hk => hk.2) (.int .u32 t116)) (fun _ hk => hk.2) (.int .u8 t117)) (fun _ hk => hk.2) (.int .u8 t118)) (fun _ hk => hk.2) (.int .u16 t119)) (fun _ hk => trivial)⟩, ⟨by (with_reducible repeat (first | refine blk_drewN ?_ _ | refine blk_drew ?_ | refine blk_alloc ?_ _)); refine blk_far ?_ NB111_125.out _; (with_reducible repeat (first | refine blk_drewN ?_ _ | refine blk_drew ?_ | refine blk_alloc ?_ _)); refine blk_far ?_ NB111_125.out _; (with_reducible repeat (first | refine blk_drewN ?_ _ | refine blk_drew ?_ | refine blk_alloc ?_ _)); refine blk_far ?_ NB111_125.out _; (with_reducible repeat (first | refine blk_drewN ?_ _ | refine blk_drew ?_ | refine blk_alloc ?_ _)); refine blk_far ?_ NB111_125.out _; (with_reducible repeat (first | refine blk_drewN ?_ _ | refine blk_drew ?_ | refine blk_alloc ?_ _)); exact BK111.out⟩, ⟨by (with_reducible repeat (first | refine blk_drewN ?_ _ | refine blk_drew ?_ | refine blk_alloc ?_ _)); refine blk_put (cs := #[.int .u32 t116, .int .u8 t117, .int .u8 t118, .int .u16 0]) ?_ 3 _ rfl; (with_reducible repeat (first | refine blk_drewN ?_ _ | refine blk_drew ?_ | refine blk_alloc ?_ _)); refine blk_put (cs := #[.int .u32 t116, .int .u8 t117, .int .u8 0, .int .u16 0]) ?_ 2 _ rfl; (with_reducible repeat (first | refine blk_drewN ?_ _ | refine blk_drew ?_ | refine blk_alloc ?_ _)); refine blk_put (cs := #[.int .u32 t116, .int .u8 0, .int .u8 0, .int .u16 0]) ?_ 1 _ rfl; (with_reducible repeat (first | refine blk_drewN ?_ _ | refine blk_drew ?_ | refine blk_alloc ?_ _)); refine blk_put (cs := #[.int .u32 0, .int .u8 0, .int .u8 0, .int .u16 0]) ?_ 0 _ rfl; (with_reducible repeat (first | refine blk_drewN ?_ _ | refine blk_drew ?_ | refine blk_alloc ?_ _)); exact BK125.out⟩, ⟨by repeat (first | (with_reducible first | exact HB.out | apply below_alloc | apply pw_below_drewN | apply below_drew1 | refine below_set ?_ GE111.out | refine below_set ?_ GE125.out) | exact HB.out)⟩⟩
          · rw [if_neg c24] at H
            exact absurd H (by simp)
      case rest =>
        clear HC11
        try clear c1
        try clear p1
        try clear q1
        try clear hx1
        try clear qi1
        try clear c2
        try clear p2
        try clear c3
        try clear c3b0
        try clear c3b1
        try clear c4
        try clear c5
        try clear c5b0
        try clear c5b1
        try clear c9
        try clear c12
        try clear p12
        try clear q12
        try clear hx12
        try clear qi12
        try clear c13
        try clear c23
        try clear c23b0
        try clear c23b1
        try clear c24
        try clear c24b0
        try clear c24b1
        try clear hx126_0
        try clear p126
        try clear q126
        obtain ⟨kq, x33_10, rfl, HA, HJ10, HO_7, BK111, BK125, HB⟩ := hcut
        cases kq with
        | zero => exact absurd HA.out (by simp [laws_FnPacketDataRead.j0])
        | succ kj10 =>
          have H := HA.out
          clear HA
          simp only [laws_FnPacketDataRead.j0] at H
          by_cases c25 : x33_10 = true
          · subst c25
            have H1 : (if t124 = true then (some false) else ((laws_packetAwake.f).bind fun t127 => (some t127))) = some r := by rw [if_pos rfl] at H; exact H
            clear H
            have H := H1
            clear H1
            by_cases c26 : t124 = true
            · subst c26
              have H1 : (some false) = some r := by rw [if_pos rfl] at H; exact H
              clear H
              have H := H1
              clear H1
              obtain rfl := Option.some.inj H
              go_wp2
              go_ret
              exact ⟨by first | rfl | (simp [errW_none, errW_some] <;> rfl) | (simp [*, errW_none, errW_some] <;> rfl), by repeat (first | (with_reducible first | exact HB.out | apply below_alloc | apply pw_below_drewN | apply below_drew1 | refine below_set ?_ GE111.out | refine below_set ?_ GE125.out) | exact HB.out)⟩
            · replace c26 := Bool.eq_false_iff.mpr c26
              subst c26
              have H1 : ((laws_packetAwake.f).bind fun t127 => (some t127)) = some r := by rw [if_neg (show ¬ (false = true) by decide)] at H; exact H
              clear H
              have H := H1
              clear H1
              replace H := Option.bind_eq_some_iff.mp H
              obtain ⟨t127, A270, H⟩ := H
              replace H : (some t127) = some r := H
              have A27 := Aside0.mk A270
              clear A270
              obtain rfl := Option.some.inj H
              go_wp2_with (first | (go_at_call 9; (with_reducible refine (laws_packetAwake.calls  t127 _ A27.out).mono ?_); rintro e w28 ⟨rfl, hb⟩; have n0_ := Aside0.mk (Kd.R_below (by (with_reducible repeat (first | apply Kd.R_alloc | apply Kd.R_drewN | apply Kd.R_drew)); exact HO_7.out) hb); have n1_ := Aside0.mk (blk_below (g := gb111) (o := .cells #[.int .u16 a0_0, .int .u16 a0_1, .int .u16 a0_2, .int .u16 a0_3, .int .u16 a0_4, .int .u8 a0_5, .int .u8 a0_6, .int .u32 a0_7, .int .u32 a0_8, .bool a0_9] 34 (0, 0)) (by (with_reducible repeat (first | refine blk_drewN ?_ _ | refine blk_drew ?_ | refine blk_alloc ?_ _)); exact BK111.out) hb); have n2_ := Aside0.mk (blk_below (g := gb125) (o := .cells #[.int .u32 t116, .int .u8 t117, .int .u8 t118, .int .u16 t119] 28 (0, 0)) (by (with_reducible repeat (first | refine blk_drewN ?_ _ | refine blk_drew ?_ | refine blk_alloc ?_ _)); exact BK125.out) hb); have n3_ := Aside0.mk (below_step (by repeat (first | (with_reducible first | exact HB.out | apply below_alloc | apply pw_below_drewN | apply below_drew1 | refine below_set ?_ GE111.out | refine below_set ?_ GE125.out) | exact HB.out)) hb); clear HO_7; clear BK111; clear BK125; clear HB; have HO_7 := n0_; have BK111 := n1_; have BK125 := n2_; have HB := n3_; clear n0_ n1_ n2_ n3_; (try clear hb); (try clear hb2); (try clear hk); (try clear hi)))
              go_ret
              exact ⟨by first | rfl | (simp [errW_none, errW_some] <;> rfl) | (simp [*, errW_none, errW_some] <;> rfl), by repeat (first | (with_reducible first | exact HB.out | apply below_alloc | apply pw_below_drewN | apply below_drew1 | refine below_set ?_ GE111.out | refine below_set ?_ GE125.out) | exact HB.out)⟩
          · replace c25 := Bool.eq_false_iff.mpr c25
            subst c25
            have H1 : (if t124 = true then ((spec_PacketGet.f kj10 l1 8 2).bind fun t128 => (if t120 = (IntKind.u16.wrap (t128)) then (if 10 ≤ (l1.length : Int) then ((bytes_Equal.f t121 (l1.drop 10)).bind fun t130 => (if t130 = true then ((spec_PacketLong.f a0_0 a0_1 a0_2 a0_3 a0_4 a0_5 a0_6 a0_7 a0_8 a0_9).bind fun t131 => ((spec_PacketHeadOf.f kj10 t131 l1 10).bind fun bt132 => (if (t116 == bt132.1 && (t117 == bt132.2.1 && (t118 == bt132.2.2.1 && (t119 == bt132.2.2.2)))) = true then ((laws_packetAwake.f).bind fun t136 => (some t136)) else (some false)))) else (some false))) else (none)) else (some false))) else (some false)) = some r := by rw [if_neg (show ¬ (false = true) by decide)] at H; exact H
            clear H
            have H := H1
            clear H1
            by_cases c29 : t124 = true
            · subst c29
              have H1 : ((spec_PacketGet.f kj10 l1 8 2).bind fun t128 => (if t120 = (IntKind.u16.wrap (t128)) then (if 10 ≤ (l1.length : Int) then ((bytes_Equal.f t121 (l1.drop 10)).bind fun t130 => (if t130 = true then ((spec_PacketLong.f a0_0 a0_1 a0_2 a0_3 a0_4 a0_5 a0_6 a0_7 a0_8 a0_9).bind fun t131 => ((spec_PacketHeadOf.f kj10 t131 l1 10).bind fun bt132 => (if (t116 == bt132.1 && (t117 == bt132.2.1 && (t118 == bt132.2.2.1 && (t119 == bt132.2.2.2)))) = true then ((laws_packetAwake.f).bind fun t136 => (some t136)) else (some false)))) else (some false))) else (none)) else (some false))) = some r := by rw [if_pos rfl] at H; exact H
              clear H
              have H := H1
              clear H1
              replace H := Option.bind_eq_some_iff.mp H
              obtain ⟨t128, A300, H⟩ := H
              replace H : (if t120 = (IntKind.u16.wrap (t128)) then (if 10 ≤ (l1.length : Int) then ((bytes_Equal.f t121 (l1.drop 10)).bind fun t130 => (if t130 = true then ((spec_PacketLong.f a0_0 a0_1 a0_2 a0_3 a0_4 a0_5 a0_6 a0_7 a0_8 a0_9).bind fun t131 => ((spec_PacketHeadOf.f kj10 t131 l1 10).bind fun bt132 => (if (t116 == bt132.1 && (t117 == bt132.2.1 && (t118 == bt132.2.2.1 && (t119 == bt132.2.2.2)))) = true then ((laws_packetAwake.f).bind fun t136 => (some t136)) else (some false)))) else (some false))) else (none)) else (some false)) = some r := H
              have A30 := Aside0.mk A300
              clear A300
              by_cases c31 : t120 = (IntKind.u16.wrap (t128))
              · rw [if_pos c31] at H
                have c31b0 : (t120 == (IntKind.u16.wrap (t128))) = true := beq_iff_eq.mpr c31
                have c31b1 : (t120 != (IntKind.u16.wrap (t128))) = false := bne_eq_false_iff_eq.mpr c31
                clear c31
                by_cases c32 : 10 ≤ (l1.length : Int)
                · rw [if_pos c32] at H
                  have c32b0 := eq_true c32
                  have c32b1 : decide (10 ≤ (l1.length : Int)) = true := decide_eq_true c32
                  clear c32
                  replace H := Option.bind_eq_some_iff.mp H
                  obtain ⟨t130, A330, H⟩ := H
                  replace H : (if t130 = true then ((spec_PacketLong.f a0_0 a0_1 a0_2 a0_3 a0_4 a0_5 a0_6 a0_7 a0_8 a0_9).bind fun t131 => ((spec_PacketHeadOf.f kj10 t131 l1 10).bind fun bt132 => (if (t116 == bt132.1 && (t117 == bt132.2.1 && (t118 == bt132.2.2.1 && (t119 == bt132.2.2.2)))) = true then ((laws_packetAwake.f).bind fun t136 => (some t136)) else (some false)))) else (some false)) = some r := H
                  have A33 := Aside0.mk A330
                  clear A330
                  by_cases c34 : t130 = true
                  · subst c34
                    have H1 : ((spec_PacketLong.f a0_0 a0_1 a0_2 a0_3 a0_4 a0_5 a0_6 a0_7 a0_8 a0_9).bind fun t131 => ((spec_PacketHeadOf.f kj10 t131 l1 10).bind fun bt132 => (if (t116 == bt132.1 && (t117 == bt132.2.1 && (t118 == bt132.2.2.1 && (t119 == bt132.2.2.2)))) = true then ((laws_packetAwake.f).bind fun t136 => (some t136)) else (some false)))) = some r := by rw [if_pos rfl] at H; exact H
                    clear H
                    have H := H1
                    clear H1
                    replace H := Option.bind_eq_some_iff.mp H
                    obtain ⟨t131, A350, H⟩ := H
                    replace H : ((spec_PacketHeadOf.f kj10 t131 l1 10).bind fun bt132 => (if (t116 == bt132.1 && (t117 == bt132.2.1 && (t118 == bt132.2.2.1 && (t119 == bt132.2.2.2)))) = true then ((laws_packetAwake.f).bind fun t136 => (some t136)) else (some false))) = some r := H
                    have A35 := Aside0.mk A350
                    clear A350
                    replace H := Option.bind_eq_some_iff.mp H
                    obtain ⟨⟨t132, t133, t134, t135⟩, A360, H⟩ := H
                    replace H : (if (t116 == t132 && (t117 == t133 && (t118 == t134 && (t119 == t135)))) = true then ((laws_packetAwake.f).bind fun t136 => (some t136)) else (some false)) = some r := H
                    have A36 := Aside0.mk A360
                    clear A360
                    by_cases c37 : (t116 == t132 && (t117 == t133 && (t118 == t134 && (t119 == t135)))) = true
                    · rw [if_pos c37] at H
                      have c37b0 : (t116 == t132 && (t117 == t133 && (t118 == t134 && (t119 == t135)))) = true := c37
                      (try (have c37b1 : decide (t116 = t132 && (t117 == t133 && (t118 == t134 && (t119 == t135)))) = true := by simpa using c37))
                      (try (have c37b2 : (t116 == t132 && (t117 == t133 && (t118 == t134 && (t119 == t135)))) = true := by simpa using c37))
                      clear c37
                      replace H := Option.bind_eq_some_iff.mp H
                      obtain ⟨t136, A380, H⟩ := H
                      replace H : (some t136) = some r := H
                      have A38 := Aside0.mk A380
                      clear A380
                      obtain rfl := Option.some.inj H
                      try go_wp2
                      have n0_ := Aside0.mk (Kd.R_drew HO_7.out)
                      have n1_ := Aside0.mk (blk_drew BK111.out)
                      have n2_ := Aside0.mk (blk_drew BK125.out)
                      have n3_ := Aside0.mk (below_drew1 HB.out)
                      clear HO_7
                      clear BK111
                      clear BK125
                      clear HB
                      have HO_7 := n0_
                      have BK111 := n1_
                      have BK125 := n2_
                      have HB := n3_
                      clear n0_ n1_ n2_ n3_
                      refine start_ (n := 26) (S := fun w' => w'.cell? ⟨gb125, 0, none⟩ = some (.int .u32 t116) ∧ w'.cell? ⟨gb125, 1, none⟩ = some (.int .u8 t117) ∧ w'.cell? ⟨gb125, 2, none⟩ = some (.int .u8 t118) ∧ w'.cell? ⟨gb125, 3, none⟩ = some (.int .u16 t119) ∧ w'.cell? ⟨gb111, 0, none⟩ = some (.int .u16 a0_0) ∧ w'.cell? ⟨gb111, 1, none⟩ = some (.int .u16 a0_1) ∧ w'.cell? ⟨gb111, 2, none⟩ = some (.int .u16 a0_2) ∧ w'.cell? ⟨gb111, 3, none⟩ = some (.int .u16 a0_3) ∧ w'.cell? ⟨gb111, 4, none⟩ = some (.int .u16 a0_4) ∧ w'.cell? ⟨gb111, 5, none⟩ = some (.int .u8 a0_5) ∧ w'.cell? ⟨gb111, 6, none⟩ = some (.int .u8 a0_6) ∧ w'.cell? ⟨gb111, 7, none⟩ = some (.int .u32 a0_7) ∧ w'.cell? ⟨gb111, 8, none⟩ = some (.int .u32 a0_8) ∧ w'.cell? ⟨gb111, 9, none⟩ = some (.bool a0_9)) (ds := []) #[false, false, false, false, false, false, false, false, false, false, false, false, false, false, false, false, false, false, false, false, false, false, false, false, false, false] (by kernel_rfl) rfl rfl ⟨(blk_cell BK125.out 0).trans rfl, (blk_cell BK125.out 1).trans rfl, (blk_cell BK125.out 2).trans rfl, (blk_cell BK125.out 3).trans rfl, (blk_cell BK111.out 0).trans rfl, (blk_cell BK111.out 1).trans rfl, (blk_cell BK111.out 2).trans rfl, (blk_cell BK111.out 3).trans rfl, (blk_cell BK111.out 4).trans rfl, (blk_cell BK111.out 5).trans rfl, (blk_cell BK111.out 6).trans rfl, (blk_cell BK111.out 7).trans rfl, (blk_cell BK111.out 8).trans rfl, (blk_cell BK111.out 9).trans rfl⟩ (fun hHeld => ?_); refine with_tabW laws_FnPacketDataRead.tab8 laws_FnPacketDataRead.bits8 (fun HT_ HW_ => ?_)
                      generalize wc.drew = w39 at HO_7 BK111 BK125 HB hHeld ⊢
                      refine pure_ (i := 0) (N := some 39) (v := ?_) (a' := ?_) #[true, false, false, false, false, false, false, false, false, false, false, false, false, false, false, false, false, false, false, false, false, false, false, false, false, false] rfl rfl (any_of HT_.out (by kernel_rfl)) (fun _ _ _ h => h) (Or.inl ⟨by rfl, ?_⟩) ?_ ?_
                      rotate_left
                      · intro w'
                        go_simp
                        with_reducible rfl
                      rotate_left
                      · simp only [Act.put, List.setIfInBounds_toArray, List.set_cons_zero, List.set_cons_succ, i64_w, i32_w]
                        rfl
                      refine pure_ (i := 1) (N := some 40) (v := ?_) (a' := ?_) #[true, true, false, false, false, false, false, false, false, false, false, false, false, false, false, false, false, false, false, false, false, false, false, false, false, false] rfl rfl (any_of HT_.out (by kernel_rfl)) (fun _ _ _ h => h) (Or.inl ⟨by rfl, ?_⟩) ?_ ?_
                      rotate_left
                      · intro w'
                        go_simp
                        with_reducible rfl
                      rotate_left
                      · simp only [Act.put, List.setIfInBounds_toArray, List.set_cons_zero, List.set_cons_succ, i64_w, i32_w]
                        rfl
                      refine pure_ (i := 2) (N := some 41) (v := ?_) (a' := ?_) #[true, true, true, false, false, false, false, false, false, false, false, false, false, false, false, false, false, false, false, false, false, false, false, false, false, false] rfl rfl (any_of HT_.out (by kernel_rfl)) (fun _ _ _ h => h) (Or.inl ⟨by rfl, ?_⟩) ?_ ?_
                      rotate_left
                      · intro w'
                        go_simp
                        with_reducible rfl
                      rotate_left
                      · simp only [Act.put, List.setIfInBounds_toArray, List.set_cons_zero, List.set_cons_succ, i64_w, i32_w]
                        rfl
                      refine pure_ (i := 3) (N := some 42) (v := ?_) (a' := ?_) #[true, true, true, true, false, false, false, false, false, false, false, false, false, false, false, false, false, false, false, false, false, false, false, false, false, false] rfl rfl (any_of HT_.out (by kernel_rfl)) (fun _ _ _ h => h) (Or.inl ⟨by rfl, ?_⟩) ?_ ?_
                      rotate_left
                      · intro w'
                        go_simp
                        with_reducible rfl
                      rotate_left
                      · simp only [Act.put, List.setIfInBounds_toArray, List.set_cons_zero, List.set_cons_succ, i64_w, i32_w]
                        rfl
                      refine one_ (i := 4) (N := some 43) #[true, true, true, true, true, false, false, false, false, false, false, false, false, false, false, false, false, false, false, false, false, false, false, false, false, false] rfl rfl (one_of HT_.out (by kernel_rfl)) (by decide) (fun K hK => ?_)
                      refine goes_ Tryd.func14 (by kernel_rfl) rfl #[.slice A1 l1.length c1, .int .i64 8, .int .i64 2] (by rfl) rfl rfl (by (try simp only [List.map_toArray, List.map_cons, List.map_nil]); first | done | rfl | (simp only [List.length_drop, List.length_take]; rfl)) ?_
                      with_reducible refine (spec_PacketGet.calls kj10 _ _ l1 8 2 t128 _ ?side1 ?side2 A30.out).mono ?_
                      (case side1 => repeat (first | exact (Kd.C_below HR1.out HB.out) | (with_reducible refine Kd.C_alloc ?_ _) | (with_reducible refine Kd.C_drewN ?_ _) | (with_reducible refine Kd.C_drew ?_)))
                      (case side2 => exact HC1.out)
                      rintro e w' ⟨rfl, ⟨nd, rfl⟩⟩
                      refine ⟨_, rfl, ?_⟩
                      obtain ⟨i040, hi040, _, hsz40, _⟩ := info_parts info5
                      obtain ⟨A40, hcut40, hA40, hC40⟩ := print_drop_of (P := Tryd.prog) (Value.int .u8) 0 24 5 .i64 Tryd.underlying24 hi040 hsz40 A1 c1 l1 10 (by omega) (of_decide_eq_true (by first | (with_reducible assumption) | assumption)) HC1.out
                      have HR129 := Aside0.mk (Kd.C_of_reads (h1 := fun _ => rfl) (hA40 _ (Kd.reads_of_C HR1.out)))
                      have HC129 := Aside0.mk hC40
                      clear hA40 hC40 hi040 hsz40
                      obtain ⟨Ao41, co41, eo41⟩ := Kd.R_slice HO_7.out
                      (first | subst eo41 | (injection eo41 with f1_ f2_ f3_; have f4_ := f1_.symm; have f5_ := f3_.symm; clear f1_ f2_ f3_; subst f4_; subst f5_))
                      refine hK.out _ _ ⟨(blk_cell BK125.out 0).trans rfl, (blk_cell BK125.out 1).trans rfl, (blk_cell BK125.out 2).trans rfl, (blk_cell BK125.out 3).trans rfl, (blk_cell BK111.out 0).trans rfl, (blk_cell BK111.out 1).trans rfl, (blk_cell BK111.out 2).trans rfl, (blk_cell BK111.out 3).trans rfl, (blk_cell BK111.out 4).trans rfl, (blk_cell BK111.out 5).trans rfl, (blk_cell BK111.out 6).trans rfl, (blk_cell BK111.out 7).trans rfl, (blk_cell BK111.out 8).trans rfl, (blk_cell BK111.out 9).trans rfl⟩ (fun hHeld => ?_)
                      clear hK K
                      refine norm_ (a' := ?_) ?_ ?_
                      rotate_left
                      · show Act.put _ (some 43) _ = _
                        simp only [Act.put, List.setIfInBounds_toArray, List.set_cons_zero, List.set_cons_succ, i64_w, i32_w]
                        rfl
                      refine pure_ (i := 5) (N := some 44) (v := ?_) (a' := ?_) #[true, true, true, true, true, true, false, false, false, false, false, false, false, false, false, false, false, false, false, false, false, false, false, false, false, false] rfl rfl (any_of HT_.out (by kernel_rfl)) (fun _ _ _ h => h) (Or.inl ⟨by rfl, ?_⟩) ?_ ?_
                      rotate_left
                      · intro w'
                        go_simp
                        with_reducible rfl
                      rotate_left
                      · simp only [Act.put, List.setIfInBounds_toArray, List.set_cons_zero, List.set_cons_succ, i64_w, i32_w]
                        rfl
                      refine pure_ (i := 6) (N := some 45) (v := ?_) (a' := ?_) #[true, true, true, true, true, true, true, false, false, false, false, false, false, false, false, false, false, false, false, false, false, false, false, false, false, false] rfl rfl (any_of HT_.out (by kernel_rfl)) (fun _ _ _ h => h) (Or.inl ⟨by rfl, ?_⟩) ?_ ?_
                      rotate_left
                      · intro w'
                        go_simp
                        with_reducible rfl
                      rotate_left
                      · simp only [Act.put, List.setIfInBounds_toArray, List.set_cons_zero, List.set_cons_succ, i64_w, i32_w]
                        rfl
                      refine pure_ (i := 7) (N := some 46) (v := ?_) (a' := ?_) #[true, true, true, true, true, true, true, true, false, false, false, false, false, false, false, false, false, false, false, false, false, false, false, false, false, false] rfl rfl (any_of HT_.out (by kernel_rfl)) (fun _ _ _ h => h) (Or.inl ⟨by rfl, ?_⟩) ?_ ?_
                      rotate_left
                      · intro w'
                        go_simp
                        with_reducible rfl
                      rotate_left
                      · simp only [Act.put, List.setIfInBounds_toArray, List.set_cons_zero, List.set_cons_succ, i64_w, i32_w]
                        rfl
                      refine pure_ (i := 8) (N := some 47) (v := ?_) (a' := ?_) #[true, true, true, true, true, true, true, true, true, false, false, false, false, false, false, false, false, false, false, false, false, false, false, false, false, false] rfl rfl (any_of HT_.out (by kernel_rfl)) (fun _ _ _ h => h) (Or.inl ⟨by rfl, ?_⟩) ?_ ?_
                      rotate_left
                      · intro w'
                        go_simp
                        with_reducible rfl
                      rotate_left
                      · simp only [Act.put, List.setIfInBounds_toArray, List.set_cons_zero, List.set_cons_succ, i64_w, i32_w]
                        rfl
                      refine pure_ (i := 9) (N := some 48) (v := ?_) (a' := ?_) #[true, true, true, true, true, true, true, true, true, true, false, false, false, false, false, false, false, false, false, false, false, false, false, false, false, false] rfl rfl (any_of HT_.out (by kernel_rfl)) (fun _ _ _ h => h) (Or.inl ⟨by rfl, ?_⟩) ?_ ?_
                      rotate_left
                      · intro w'
                        go_simp
                        with_reducible rfl
                      rotate_left
                      · simp only [Act.put, List.setIfInBounds_toArray, List.set_cons_zero, List.set_cons_succ, i64_w, i32_w]
                        rfl
                      refine pure_ (i := 10) (N := some 49) (v := ?_) (a' := ?_) #[true, true, true, true, true, true, true, true, true, true, true, false, false, false, false, false, false, false, false, false, false, false, false, false, false, false] rfl rfl (any_of HT_.out (by kernel_rfl)) (fun _ _ _ h => h) (Or.inl ⟨by rfl, ?_⟩) ?_ ?_
                      rotate_left
                      · intro w'
                        go_simp
                        with_reducible rfl
                      rotate_left
                      · simp only [Act.put, List.setIfInBounds_toArray, List.set_cons_zero, List.set_cons_succ, i64_w, i32_w]
                        rfl
                      refine pure_ (i := 11) (N := some 50) (v := ?_) (a' := ?_) #[true, true, true, true, true, true, true, true, true, true, true, true, false, false, false, false, false, false, false, false, false, false, false, false, false, false] rfl rfl (any_of HT_.out (by kernel_rfl)) (fun _ _ _ h => h) (Or.inl ⟨by rfl, ?_⟩) ?_ ?_
                      rotate_left
                      · intro w'
                        go_simp
                        with_reducible rfl
                      rotate_left
                      · simp only [Act.put, List.setIfInBounds_toArray, List.set_cons_zero, List.set_cons_succ, i64_w, i32_w]
                        rfl
                      refine one_ (i := 12) (N := some 51) #[true, true, true, true, true, true, true, true, true, true, true, true, true, false, false, false, false, false, false, false, false, false, false, false, false, false] rfl rfl (one_of HT_.out (by kernel_rfl)) (by decide) (fun K hK => ?_)
                      refine goes_ Tryd.func15 (by kernel_rfl) rfl #[.slice Ao41 t121.length co41, .slice A40 (l1.drop 10).length (c1 - 10)] (by rfl) rfl rfl (by (try simp only [List.map_toArray, List.map_cons, List.map_nil]); first | done | (rw [show (l1.drop 10).length = (l1.length - 10) from List.length_drop] <;> rfl) | rfl | (simp only [List.length_drop, List.length_take]; rfl)) ?_
                      with_reducible refine (bytes_Equal.calls _ _ t121 _ _ (l1.drop 10) true _ ?side1 ?side2 ?side3 ?side4 A33.out).mono ?_
                      (case side1 => repeat (first | exact (Kd.R_reads' HO_7.out).2.2 | (with_reducible refine Kd.C_alloc ?_ _) | (with_reducible refine Kd.C_drewN ?_ _) | (with_reducible refine Kd.C_drew ?_)))
                      (case side2 => exact (Kd.R_reads' HO_7.out).2.1)
                      (case side3 => repeat (first | exact (Kd.C_below HR129.out (by repeat (first | (with_reducible first | exact HB.out | apply below_alloc | apply pw_below_drewN | apply below_drew1 | refine below_set ?_ GE111.out | refine below_set ?_ GE125.out) | exact HB.out))) | (with_reducible refine Kd.C_alloc ?_ _) | (with_reducible refine Kd.C_drewN ?_ _) | (with_reducible refine Kd.C_drew ?_)))
                      (case side4 => exact HC129.out)
                      rintro e w' ⟨rfl, ⟨nd, rfl⟩⟩
                      refine ⟨_, rfl, ?_⟩
                      refine hK.out _ _ ⟨(blk_cell BK125.out 0).trans rfl, (blk_cell BK125.out 1).trans rfl, (blk_cell BK125.out 2).trans rfl, (blk_cell BK125.out 3).trans rfl, (blk_cell BK111.out 0).trans rfl, (blk_cell BK111.out 1).trans rfl, (blk_cell BK111.out 2).trans rfl, (blk_cell BK111.out 3).trans rfl, (blk_cell BK111.out 4).trans rfl, (blk_cell BK111.out 5).trans rfl, (blk_cell BK111.out 6).trans rfl, (blk_cell BK111.out 7).trans rfl, (blk_cell BK111.out 8).trans rfl, (blk_cell BK111.out 9).trans rfl⟩ (fun hHeld => ?_)
                      clear hK K
                      refine norm_ (a' := ?_) ?_ ?_
                      rotate_left
                      · show Act.put _ (some 51) _ = _
                        simp only [Act.put, List.setIfInBounds_toArray, List.set_cons_zero, List.set_cons_succ, i64_w, i32_w]
                        rfl
                      refine pure_ (i := 13) (N := some 52) (v := ?_) (a' := ?_) #[true, true, true, true, true, true, true, true, true, true, true, true, true, true, false, false, false, false, false, false, false, false, false, false, false, false] rfl rfl (any_of HT_.out (by kernel_rfl)) (fun _ _ _ h => h) (Or.inl ⟨by rfl, ?_⟩) ?_ ?_
                      rotate_left
                      · intro w'
                        go_simp
                        with_reducible rfl
                      rotate_left
                      · simp only [Act.put, List.setIfInBounds_toArray, List.set_cons_zero, List.set_cons_succ, i64_w, i32_w]
                        rfl
                      refine pure_ (i := 14) (N := some 53) (v := ?_) (a' := ?_) #[true, true, true, true, true, true, true, true, true, true, true, true, true, true, true, false, false, false, false, false, false, false, false, false, false, false] rfl rfl (any_of HT_.out (by kernel_rfl)) (fun _ _ _ h => h) (Or.inl ⟨by rfl, ?_⟩) ?_ ?_
                      rotate_left
                      · intro w'
                        go_simp
                        with_reducible rfl
                      rotate_left
                      · simp only [Act.put, List.setIfInBounds_toArray, List.set_cons_zero, List.set_cons_succ, i64_w, i32_w]
                        rfl
                      refine pure_ (i := 18) (N := some 57) (v := ?_) (a' := ?_) #[true, true, true, true, true, true, true, true, true, true, true, true, true, true, true, false, false, false, true, false, false, false, false, false, false, false] rfl rfl (any_of HT_.out (by kernel_rfl)) (fun _ _ _ h => h) (Or.inl ⟨by rfl, ?_⟩) ?_ ?_
                      rotate_left
                      · intro w'
                        go_simp
                        with_reducible rfl
                      rotate_left
                      · simp only [Act.put, List.setIfInBounds_toArray, List.set_cons_zero, List.set_cons_succ, i64_w, i32_w]
                        rfl
                      refine take_ (i := 15) (N := some 54) (v := ?_) (a' := ?_) #[true, true, true, true, true, true, true, true, true, true, true, true, true, true, true, true, false, false, true, false, false, false, false, false, false, false] rfl rfl (take_ofW HT_.out HW_.out (by kernel_rfl)) (fun _ _ _ h => h) (Or.inl ⟨by rfl, ?_⟩) hHeld ?_ ?_
                      rotate_left
                      · rintro w' ⟨s0, s1, s2, s3, s4, s5, s6, s7, s8, s9, s10, s11, s12, s13⟩
                        go_simp
                        with_reducible rfl
                      rotate_left
                      · simp only [Act.put, List.setIfInBounds_toArray, List.set_cons_zero, List.set_cons_succ, i64_w, i32_w]
                        rfl
                      refine take_ (i := 16) (N := some 55) (v := ?_) (a' := ?_) #[true, true, true, true, true, true, true, true, true, true, true, true, true, true, true, true, true, false, true, false, false, false, false, false, false, false] rfl rfl (take_ofW HT_.out HW_.out (by kernel_rfl)) (fun _ _ _ h => h) (Or.inl ⟨by rfl, ?_⟩) hHeld ?_ ?_
                      rotate_left
                      · rintro w' ⟨s0, s1, s2, s3, s4, s5, s6, s7, s8, s9, s10, s11, s12, s13⟩
                        go_simp
                        with_reducible rfl
                      rotate_left
                      · simp only [Act.put, List.setIfInBounds_toArray, List.set_cons_zero, List.set_cons_succ, i64_w, i32_w]
                        rfl
                      refine one_ (i := 17) (N := some 56) #[true, true, true, true, true, true, true, true, true, true, true, true, true, true, true, true, true, true, true, false, false, false, false, false, false, false] rfl rfl (one_of HT_.out (by kernel_rfl)) (by decide) (fun K hK => ?_)
                      refine goes_ Tryd.func17 (by kernel_rfl) rfl #[.agg #[.int .u16 a0_0, .int .u16 a0_1, .int .u16 a0_2, .int .u16 a0_3, .int .u16 a0_4, .int .u8 a0_5, .int .u8 a0_6, .int .u32 a0_7, .int .u32 a0_8, .bool a0_9]] (by rfl) rfl rfl (by (try simp only [List.map_toArray, List.map_cons, List.map_nil]); first | done | rfl | (simp only [List.length_drop, List.length_take]; rfl)) ?_
                      with_reducible refine (spec_PacketLong.calls a0_0 a0_1 a0_2 a0_3 a0_4 a0_5 a0_6 a0_7 a0_8 a0_9 t131 _ A35.out).mono ?_
                      rintro e w42 ⟨rfl, hb⟩
                      refine ⟨_, rfl, ?_⟩
                      have n0_ := Aside0.mk (Kd.R_below (by (with_reducible repeat (first | apply Kd.R_alloc | apply Kd.R_drewN | apply Kd.R_drew)); exact HO_7.out) hb)
                      have n1_ := Aside0.mk (blk_below (g := gb111) (o := .cells #[.int .u16 a0_0, .int .u16 a0_1, .int .u16 a0_2, .int .u16 a0_3, .int .u16 a0_4, .int .u8 a0_5, .int .u8 a0_6, .int .u32 a0_7, .int .u32 a0_8, .bool a0_9] 34 (0, 0)) (by (with_reducible repeat (first | refine blk_drewN ?_ _ | refine blk_drew ?_ | refine blk_alloc ?_ _)); exact BK111.out) hb)
                      have n2_ := Aside0.mk (blk_below (g := gb125) (o := .cells #[.int .u32 t116, .int .u8 t117, .int .u8 t118, .int .u16 t119] 28 (0, 0)) (by (with_reducible repeat (first | refine blk_drewN ?_ _ | refine blk_drew ?_ | refine blk_alloc ?_ _)); exact BK125.out) hb)
                      have n3_ := Aside0.mk (below_step (by repeat (first | (with_reducible first | exact HB.out | apply below_alloc | apply pw_below_drewN | apply below_drew1 | refine below_set ?_ GE111.out | refine below_set ?_ GE125.out) | exact HB.out)) hb)
                      clear HO_7
                      clear BK111
                      clear BK125
                      clear HB
                      have HO_7 := n0_
                      have BK111 := n1_
                      have BK125 := n2_
                      have HB := n3_
                      clear n0_ n1_ n2_ n3_
                      (try clear hb)
                      (try clear hb2)
                      (try clear hk)
                      (try clear hi)
                      refine hK.out _ _ ⟨(blk_cell BK125.out 0).trans rfl, (blk_cell BK125.out 1).trans rfl, (blk_cell BK125.out 2).trans rfl, (blk_cell BK125.out 3).trans rfl, (blk_cell BK111.out 0).trans rfl, (blk_cell BK111.out 1).trans rfl, (blk_cell BK111.out 2).trans rfl, (blk_cell BK111.out 3).trans rfl, (blk_cell BK111.out 4).trans rfl, (blk_cell BK111.out 5).trans rfl, (blk_cell BK111.out 6).trans rfl, (blk_cell BK111.out 7).trans rfl, (blk_cell BK111.out 8).trans rfl, (blk_cell BK111.out 9).trans rfl⟩ (fun hHeld => ?_)
                      clear hK K
                      refine norm_ (a' := ?_) ?_ ?_
                      rotate_left
                      · show Act.put _ (some 56) _ = _
                        simp only [Act.put, List.setIfInBounds_toArray, List.set_cons_zero, List.set_cons_succ, i64_w, i32_w]
                        rfl
                      refine one_ (i := 19) (N := some 58) #[true, true, true, true, true, true, true, true, true, true, true, true, true, true, true, true, true, true, true, true, false, false, false, false, false, false] rfl rfl (one_of HT_.out (by kernel_rfl)) (by decide) (fun K hK => ?_)
                      refine goes_ Tryd.func16 (by kernel_rfl) rfl #[.bool t131, .slice A1 l1.length c1, .int .u16 10] (by rfl) rfl rfl (by (try simp only [List.map_toArray, List.map_cons, List.map_nil]); first | done | rfl | (simp only [List.length_drop, List.length_take]; rfl)) ?_
                      with_reducible refine (spec_PacketHeadOf.calls kj10 t131 _ _ l1 10 t132 t133 t134 t135 _ ?side1 ?side2 A36.out).mono ?_
                      (case side1 => repeat (first | exact (Kd.C_below HR1.out HB.out) | (with_reducible refine Kd.C_alloc ?_ _) | (with_reducible refine Kd.C_drewN ?_ _) | (with_reducible refine Kd.C_drew ?_)))
                      (case side2 => exact HC1.out)
                      rintro e w43 ⟨rfl, hb⟩
                      refine ⟨_, rfl, ?_⟩
                      have n0_ := Aside0.mk (Kd.R_below (by (with_reducible repeat (first | apply Kd.R_alloc | apply Kd.R_drewN | apply Kd.R_drew)); exact HO_7.out) hb)
                      have n1_ := Aside0.mk (blk_below (g := gb111) (o := .cells #[.int .u16 a0_0, .int .u16 a0_1, .int .u16 a0_2, .int .u16 a0_3, .int .u16 a0_4, .int .u8 a0_5, .int .u8 a0_6, .int .u32 a0_7, .int .u32 a0_8, .bool a0_9] 34 (0, 0)) (by (with_reducible repeat (first | refine blk_drewN ?_ _ | refine blk_drew ?_ | refine blk_alloc ?_ _)); exact BK111.out) hb)
                      have n2_ := Aside0.mk (blk_below (g := gb125) (o := .cells #[.int .u32 t116, .int .u8 t117, .int .u8 t118, .int .u16 t119] 28 (0, 0)) (by (with_reducible repeat (first | refine blk_drewN ?_ _ | refine blk_drew ?_ | refine blk_alloc ?_ _)); exact BK125.out) hb)
                      have n3_ := Aside0.mk (below_step (by repeat (first | (with_reducible first | exact HB.out | apply below_alloc | apply pw_below_drewN | apply below_drew1 | refine below_set ?_ GE111.out | refine below_set ?_ GE125.out) | exact HB.out)) hb)
                      clear HO_7
                      clear BK111
                      clear BK125
                      clear HB
                      have HO_7 := n0_
                      have BK111 := n1_
                      have BK125 := n2_
                      have HB := n3_
                      clear n0_ n1_ n2_ n3_
                      (try clear hb)
                      (try clear hb2)
                      (try clear hk)
                      (try clear hi)
                      refine hK.out _ _ ⟨(blk_cell BK125.out 0).trans rfl, (blk_cell BK125.out 1).trans rfl, (blk_cell BK125.out 2).trans rfl, (blk_cell BK125.out 3).trans rfl, (blk_cell BK111.out 0).trans rfl, (blk_cell BK111.out 1).trans rfl, (blk_cell BK111.out 2).trans rfl, (blk_cell BK111.out 3).trans rfl, (blk_cell BK111.out 4).trans rfl, (blk_cell BK111.out 5).trans rfl, (blk_cell BK111.out 6).trans rfl, (blk_cell BK111.out 7).trans rfl, (blk_cell BK111.out 8).trans rfl, (blk_cell BK111.out 9).trans rfl⟩ (fun hHeld => ?_)
                      clear hK K
                      refine norm_ (a' := ?_) ?_ ?_
                      rotate_left
                      · show Act.put _ (some 58) _ = _
                        simp only [Act.put, List.setIfInBounds_toArray, List.set_cons_zero, List.set_cons_succ, i64_w, i32_w]
                        rfl
                      refine pure_ (i := 20) (N := some 59) (v := ?_) (a' := ?_) #[true, true, true, true, true, true, true, true, true, true, true, true, true, true, true, true, true, true, true, true, true, false, false, false, false, false] rfl rfl (any_of HT_.out (by kernel_rfl)) (fun _ _ _ h => h) (Or.inl ⟨by rfl, ?_⟩) ?_ ?_
                      rotate_left
                      · intro w'
                        go_simp
                        with_reducible rfl
                      rotate_left
                      · simp only [Act.put, List.setIfInBounds_toArray, List.set_cons_zero, List.set_cons_succ, i64_w, i32_w]
                        rfl
                      refine pure_ (i := 21) (N := some 60) (v := ?_) (a' := ?_) #[true, true, true, true, true, true, true, true, true, true, true, true, true, true, true, true, true, true, true, true, true, true, false, false, false, false] rfl rfl (any_of HT_.out (by kernel_rfl)) (fun _ _ _ h => h) (Or.inl ⟨by rfl, ?_⟩) ?_ ?_
                      rotate_left
                      · intro w'
                        go_simp
                        with_reducible rfl
                      rotate_left
                      · simp only [Act.put, List.setIfInBounds_toArray, List.set_cons_zero, List.set_cons_succ, i64_w, i32_w]
                        rfl
                      refine pure_ (i := 22) (N := some 61) (v := ?_) (a' := ?_) #[true, true, true, true, true, true, true, true, true, true, true, true, true, true, true, true, true, true, true, true, true, true, true, false, false, false] rfl rfl (any_of HT_.out (by kernel_rfl)) (fun _ _ _ h => h) (Or.inl ⟨by rfl, ?_⟩) ?_ ?_
                      rotate_left
                      · intro w'
                        go_simp
                        with_reducible rfl
                      rotate_left
                      · simp only [Act.put, List.setIfInBounds_toArray, List.set_cons_zero, List.set_cons_succ, i64_w, i32_w]
                        rfl
                      refine one_ (i := 23) (N := some 62) #[true, true, true, true, true, true, true, true, true, true, true, true, true, true, true, true, true, true, true, true, true, true, true, true, false, false] rfl rfl (one_of HT_.out (by kernel_rfl)) (by decide) (fun K hK => ?_)
                      refine goes_ Tryd.func9 (by kernel_rfl) rfl #[] (by rfl) rfl rfl (by (try simp only [List.map_toArray, List.map_cons, List.map_nil]); first | done | rfl | (simp only [List.length_drop, List.length_take]; rfl)) ?_
                      with_reducible refine (laws_packetAwake.calls  t136 _ A38.out).mono ?_
                      rintro e w44 ⟨rfl, hb⟩
                      refine ⟨_, rfl, ?_⟩
                      have n0_ := Aside0.mk (Kd.R_below (by (with_reducible repeat (first | apply Kd.R_alloc | apply Kd.R_drewN | apply Kd.R_drew)); exact HO_7.out) hb)
                      have n1_ := Aside0.mk (blk_below (g := gb111) (o := .cells #[.int .u16 a0_0, .int .u16 a0_1, .int .u16 a0_2, .int .u16 a0_3, .int .u16 a0_4, .int .u8 a0_5, .int .u8 a0_6, .int .u32 a0_7, .int .u32 a0_8, .bool a0_9] 34 (0, 0)) (by (with_reducible repeat (first | refine blk_drewN ?_ _ | refine blk_drew ?_ | refine blk_alloc ?_ _)); exact BK111.out) hb)
                      have n2_ := Aside0.mk (blk_below (g := gb125) (o := .cells #[.int .u32 t116, .int .u8 t117, .int .u8 t118, .int .u16 t119] 28 (0, 0)) (by (with_reducible repeat (first | refine blk_drewN ?_ _ | refine blk_drew ?_ | refine blk_alloc ?_ _)); exact BK125.out) hb)
                      have n3_ := Aside0.mk (below_step (by repeat (first | (with_reducible first | exact HB.out | apply below_alloc | apply pw_below_drewN | apply below_drew1 | refine below_set ?_ GE111.out | refine below_set ?_ GE125.out) | exact HB.out)) hb)
                      clear HO_7
                      clear BK111
                      clear BK125
                      clear HB
                      have HO_7 := n0_
                      have BK111 := n1_
                      have BK125 := n2_
                      have HB := n3_
                      clear n0_ n1_ n2_ n3_
                      (try clear hb)
                      (try clear hb2)
                      (try clear hk)
                      (try clear hi)
                      refine hK.out _ _ ⟨(blk_cell BK125.out 0).trans rfl, (blk_cell BK125.out 1).trans rfl, (blk_cell BK125.out 2).trans rfl, (blk_cell BK125.out 3).trans rfl, (blk_cell BK111.out 0).trans rfl, (blk_cell BK111.out 1).trans rfl, (blk_cell BK111.out 2).trans rfl, (blk_cell BK111.out 3).trans rfl, (blk_cell BK111.out 4).trans rfl, (blk_cell BK111.out 5).trans rfl, (blk_cell BK111.out 6).trans rfl, (blk_cell BK111.out 7).trans rfl, (blk_cell BK111.out 8).trans rfl, (blk_cell BK111.out 9).trans rfl⟩ (fun hHeld => ?_)
                      clear hK K
                      refine norm_ (a' := ?_) ?_ ?_
                      rotate_left
                      · show Act.put _ (some 62) _ = _
                        simp only [Act.put, List.setIfInBounds_toArray, List.set_cons_zero, List.set_cons_succ, i64_w, i32_w]
                        rfl
                      refine pure_ (i := 24) (N := some 63) (v := ?_) (a' := ?_) #[true, true, true, true, true, true, true, true, true, true, true, true, true, true, true, true, true, true, true, true, true, true, true, true, true, false] rfl rfl (any_of HT_.out (by kernel_rfl)) (fun _ _ _ h => h) (Or.inl ⟨by rfl, ?_⟩) ?_ ?_
                      rotate_left
                      · intro w'
                        go_simp
                        with_reducible rfl
                      rotate_left
                      · simp only [Act.put, List.setIfInBounds_toArray, List.set_cons_zero, List.set_cons_succ, i64_w, i32_w]
                        rfl
                      refine pure_ (i := 25) (N := some 4) (v := ?_) (a' := ?_) #[true, true, true, true, true, true, true, true, true, true, true, true, true, true, true, true, true, true, true, true, true, true, true, true, true, true] rfl rfl (any_of HT_.out (by kernel_rfl)) (fun _ _ _ h => h) (Or.inl ⟨by rfl, ?_⟩) ?_ ?_
                      rotate_left
                      · intro w'
                        go_simp
                        with_reducible rfl
                      rotate_left
                      · simp only [Act.put, List.setIfInBounds_toArray, List.set_cons_zero, List.set_cons_succ, i64_w, i32_w]
                        rfl
                      refine done_ (done_of HT_.out (by kernel_rfl)) ?_
                      try go_wp2
                      go_ret
                      exact ⟨by first | rfl | (simp [errW_none, errW_some] <;> rfl) | (simp [*, errW_none, errW_some] <;> rfl), by repeat (first | (with_reducible first | exact HB.out | apply below_alloc | apply pw_below_drewN | apply below_drew1 | refine below_set ?_ GE111.out | refine below_set ?_ GE125.out) | exact HB.out)⟩
                    · rw [if_neg c37] at H
                      have c37b0 : (t116 == t132 && (t117 == t133 && (t118 == t134 && (t119 == t135)))) = false := by simpa using c37
                      (try (have c37b1 : decide (t116 = t132 && (t117 == t133 && (t118 == t134 && (t119 == t135)))) = false := by simpa using c37))
                      (try (have c37b2 : (t116 == t132 && (t117 == t133 && (t118 == t134 && (t119 == t135)))) = false := by simpa using c37))
                      (try (have c37b3 : ¬ (t116 = t132 && (t117 == t133 && (t118 == t134 && (t119 == t135)))) := by simpa using c37))
                      clear c37
                      obtain rfl := Option.some.inj H
                      try go_wp2
                      have n0_ := Aside0.mk (Kd.R_drew HO_7.out)
                      have n1_ := Aside0.mk (blk_drew BK111.out)
                      have n2_ := Aside0.mk (blk_drew BK125.out)
                      have n3_ := Aside0.mk (below_drew1 HB.out)
                      clear HO_7
                      clear BK111
                      clear BK125
                      clear HB
                      have HO_7 := n0_
                      have BK111 := n1_
                      have BK125 := n2_
                      have HB := n3_
                      clear n0_ n1_ n2_ n3_
                      refine start_ (n := 26) (S := fun w' => w'.cell? ⟨gb125, 0, none⟩ = some (.int .u32 t116) ∧ w'.cell? ⟨gb125, 1, none⟩ = some (.int .u8 t117) ∧ w'.cell? ⟨gb125, 2, none⟩ = some (.int .u8 t118) ∧ w'.cell? ⟨gb125, 3, none⟩ = some (.int .u16 t119) ∧ w'.cell? ⟨gb111, 0, none⟩ = some (.int .u16 a0_0) ∧ w'.cell? ⟨gb111, 1, none⟩ = some (.int .u16 a0_1) ∧ w'.cell? ⟨gb111, 2, none⟩ = some (.int .u16 a0_2) ∧ w'.cell? ⟨gb111, 3, none⟩ = some (.int .u16 a0_3) ∧ w'.cell? ⟨gb111, 4, none⟩ = some (.int .u16 a0_4) ∧ w'.cell? ⟨gb111, 5, none⟩ = some (.int .u8 a0_5) ∧ w'.cell? ⟨gb111, 6, none⟩ = some (.int .u8 a0_6) ∧ w'.cell? ⟨gb111, 7, none⟩ = some (.int .u32 a0_7) ∧ w'.cell? ⟨gb111, 8, none⟩ = some (.int .u32 a0_8) ∧ w'.cell? ⟨gb111, 9, none⟩ = some (.bool a0_9)) (ds := []) #[false, false, false, false, false, false, false, false, false, false, false, false, false, false, false, false, false, false, false, false, false, false, false, false, false, false] (by kernel_rfl) rfl rfl ⟨(blk_cell BK125.out 0).trans rfl, (blk_cell BK125.out 1).trans rfl, (blk_cell BK125.out 2).trans rfl, (blk_cell BK125.out 3).trans rfl, (blk_cell BK111.out 0).trans rfl, (blk_cell BK111.out 1).trans rfl, (blk_cell BK111.out 2).trans rfl, (blk_cell BK111.out 3).trans rfl, (blk_cell BK111.out 4).trans rfl, (blk_cell BK111.out 5).trans rfl, (blk_cell BK111.out 6).trans rfl, (blk_cell BK111.out 7).trans rfl, (blk_cell BK111.out 8).trans rfl, (blk_cell BK111.out 9).trans rfl⟩ (fun hHeld => ?_); refine with_tabW laws_FnPacketDataRead.tab8 laws_FnPacketDataRead.bits8 (fun HT_ HW_ => ?_)
                      generalize wc.drew = w45 at HO_7 BK111 BK125 HB hHeld ⊢
                      refine pure_ (i := 0) (N := some 39) (v := ?_) (a' := ?_) #[true, false, false, false, false, false, false, false, false, false, false, false, false, false, false, false, false, false, false, false, false, false, false, false, false, false] rfl rfl (any_of HT_.out (by kernel_rfl)) (fun _ _ _ h => h) (Or.inl ⟨by rfl, ?_⟩) ?_ ?_
                      rotate_left
                      · intro w'
                        go_simp
                        with_reducible rfl
                      rotate_left
                      · simp only [Act.put, List.setIfInBounds_toArray, List.set_cons_zero, List.set_cons_succ, i64_w, i32_w]
                        rfl
                      refine pure_ (i := 1) (N := some 40) (v := ?_) (a' := ?_) #[true, true, false, false, false, false, false, false, false, false, false, false, false, false, false, false, false, false, false, false, false, false, false, false, false, false] rfl rfl (any_of HT_.out (by kernel_rfl)) (fun _ _ _ h => h) (Or.inl ⟨by rfl, ?_⟩) ?_ ?_
                      rotate_left
                      · intro w'
                        go_simp
                        with_reducible rfl
                      rotate_left
                      · simp only [Act.put, List.setIfInBounds_toArray, List.set_cons_zero, List.set_cons_succ, i64_w, i32_w]
                        rfl
                      refine pure_ (i := 2) (N := some 41) (v := ?_) (a' := ?_) #[true, true, true, false, false, false, false, false, false, false, false, false, false, false, false, false, false, false, false, false, false, false, false, false, false, false] rfl rfl (any_of HT_.out (by kernel_rfl)) (fun _ _ _ h => h) (Or.inl ⟨by rfl, ?_⟩) ?_ ?_
                      rotate_left
                      · intro w'
                        go_simp
                        with_reducible rfl
                      rotate_left
                      · simp only [Act.put, List.setIfInBounds_toArray, List.set_cons_zero, List.set_cons_succ, i64_w, i32_w]
                        rfl
                      refine pure_ (i := 3) (N := some 42) (v := ?_) (a' := ?_) #[true, true, true, true, false, false, false, false, false, false, false, false, false, false, false, false, false, false, false, false, false, false, false, false, false, false] rfl rfl (any_of HT_.out (by kernel_rfl)) (fun _ _ _ h => h) (Or.inl ⟨by rfl, ?_⟩) ?_ ?_
                      rotate_left
                      · intro w'
                        go_simp
                        with_reducible rfl
                      rotate_left
                      · simp only [Act.put, List.setIfInBounds_toArray, List.set_cons_zero, List.set_cons_succ, i64_w, i32_w]
                        rfl
                      refine one_ (i := 4) (N := some 43) #[true, true, true, true, true, false, false, false, false, false, false, false, false, false, false, false, false, false, false, false, false, false, false, false, false, false] rfl rfl (one_of HT_.out (by kernel_rfl)) (by decide) (fun K hK => ?_)
                      refine goes_ Tryd.func14 (by kernel_rfl) rfl #[.slice A1 l1.length c1, .int .i64 8, .int .i64 2] (by rfl) rfl rfl (by (try simp only [List.map_toArray, List.map_cons, List.map_nil]); first | done | rfl | (simp only [List.length_drop, List.length_take]; rfl)) ?_
                      with_reducible refine (spec_PacketGet.calls kj10 _ _ l1 8 2 t128 _ ?side1 ?side2 A30.out).mono ?_
                      (case side1 => repeat (first | exact (Kd.C_below HR1.out HB.out) | (with_reducible refine Kd.C_alloc ?_ _) | (with_reducible refine Kd.C_drewN ?_ _) | (with_reducible refine Kd.C_drew ?_)))
                      (case side2 => exact HC1.out)
                      rintro e w' ⟨rfl, ⟨nd, rfl⟩⟩
                      refine ⟨_, rfl, ?_⟩
                      obtain ⟨i046, hi046, _, hsz46, _⟩ := info_parts info5
                      obtain ⟨A46, hcut46, hA46, hC46⟩ := print_drop_of (P := Tryd.prog) (Value.int .u8) 0 24 5 .i64 Tryd.underlying24 hi046 hsz46 A1 c1 l1 10 (by omega) (of_decide_eq_true (by first | (with_reducible assumption) | assumption)) HC1.out
                      have HR129 := Aside0.mk (Kd.C_of_reads (h1 := fun _ => rfl) (hA46 _ (Kd.reads_of_C HR1.out)))
                      have HC129 := Aside0.mk hC46
                      clear hA46 hC46 hi046 hsz46
                      obtain ⟨Ao47, co47, eo47⟩ := Kd.R_slice HO_7.out
                      (first | subst eo47 | (injection eo47 with f1_ f2_ f3_; have f4_ := f1_.symm; have f5_ := f3_.symm; clear f1_ f2_ f3_; subst f4_; subst f5_))
                      refine hK.out _ _ ⟨(blk_cell BK125.out 0).trans rfl, (blk_cell BK125.out 1).trans rfl, (blk_cell BK125.out 2).trans rfl, (blk_cell BK125.out 3).trans rfl, (blk_cell BK111.out 0).trans rfl, (blk_cell BK111.out 1).trans rfl, (blk_cell BK111.out 2).trans rfl, (blk_cell BK111.out 3).trans rfl, (blk_cell BK111.out 4).trans rfl, (blk_cell BK111.out 5).trans rfl, (blk_cell BK111.out 6).trans rfl, (blk_cell BK111.out 7).trans rfl, (blk_cell BK111.out 8).trans rfl, (blk_cell BK111.out 9).trans rfl⟩ (fun hHeld => ?_)
                      clear hK K
                      refine norm_ (a' := ?_) ?_ ?_
                      rotate_left
                      · show Act.put _ (some 43) _ = _
                        simp only [Act.put, List.setIfInBounds_toArray, List.set_cons_zero, List.set_cons_succ, i64_w, i32_w]
                        rfl
                      refine pure_ (i := 5) (N := some 44) (v := ?_) (a' := ?_) #[true, true, true, true, true, true, false, false, false, false, false, false, false, false, false, false, false, false, false, false, false, false, false, false, false, false] rfl rfl (any_of HT_.out (by kernel_rfl)) (fun _ _ _ h => h) (Or.inl ⟨by rfl, ?_⟩) ?_ ?_
                      rotate_left
                      · intro w'
                        go_simp
                        with_reducible rfl
                      rotate_left
                      · simp only [Act.put, List.setIfInBounds_toArray, List.set_cons_zero, List.set_cons_succ, i64_w, i32_w]
                        rfl
                      refine pure_ (i := 6) (N := some 45) (v := ?_) (a' := ?_) #[true, true, true, true, true, true, true, false, false, false, false, false, false, false, false, false, false, false, false, false, false, false, false, false, false, false] rfl rfl (any_of HT_.out (by kernel_rfl)) (fun _ _ _ h => h) (Or.inl ⟨by rfl, ?_⟩) ?_ ?_
                      rotate_left
                      · intro w'
                        go_simp
                        with_reducible rfl
                      rotate_left
                      · simp only [Act.put, List.setIfInBounds_toArray, List.set_cons_zero, List.set_cons_succ, i64_w, i32_w]
                        rfl
                      refine pure_ (i := 7) (N := some 46) (v := ?_) (a' := ?_) #[true, true, true, true, true, true, true, true, false, false, false, false, false, false, false, false, false, false, false, false, false, false, false, false, false, false] rfl rfl (any_of HT_.out (by kernel_rfl)) (fun _ _ _ h => h) (Or.inl ⟨by rfl, ?_⟩) ?_ ?_
                      rotate_left
                      · intro w'
                        go_simp
                        with_reducible rfl
                      rotate_left
                      · simp only [Act.put, List.setIfInBounds_toArray, List.set_cons_zero, List.set_cons_succ, i64_w, i32_w]
                        rfl
                      refine pure_ (i := 8) (N := some 47) (v := ?_) (a' := ?_) #[true, true, true, true, true, true, true, true, true, false, false, false, false, false, false, false, false, false, false, false, false, false, false, false, false, false] rfl rfl (any_of HT_.out (by kernel_rfl)) (fun _ _ _ h => h) (Or.inl ⟨by rfl, ?_⟩) ?_ ?_
                      rotate_left
                      · intro w'
                        go_simp
                        with_reducible rfl
                      rotate_left
                      · simp only [Act.put, List.setIfInBounds_toArray, List.set_cons_zero, List.set_cons_succ, i64_w, i32_w]
                        rfl
                      refine pure_ (i := 9) (N := some 48) (v := ?_) (a' := ?_) #[true, true, true, true, true, true, true, true, true, true, false, false, false, false, false, false, false, false, false, false, false, false, false, false, false, false] rfl rfl (any_of HT_.out (by kernel_rfl)) (fun _ _ _ h => h) (Or.inl ⟨by rfl, ?_⟩) ?_ ?_
                      rotate_left
                      · intro w'
                        go_simp
                        with_reducible rfl
                      rotate_left
                      · simp only [Act.put, List.setIfInBounds_toArray, List.set_cons_zero, List.set_cons_succ, i64_w, i32_w]
                        rfl
                      refine pure_ (i := 10) (N := some 49) (v := ?_) (a' := ?_) #[true, true, true, true, true, true, true, true, true, true, true, false, false, false, false, false, false, false, false, false, false, false, false, false, false, false] rfl rfl (any_of HT_.out (by kernel_rfl)) (fun _ _ _ h => h) (Or.inl ⟨by rfl, ?_⟩) ?_ ?_
                      rotate_left
                      · intro w'
                        go_simp
                        with_reducible rfl
                      rotate_left
                      · simp only [Act.put, List.setIfInBounds_toArray, List.set_cons_zero, List.set_cons_succ, i64_w, i32_w]
                        rfl
                      refine pure_ (i := 11) (N := some 50) (v := ?_) (a' := ?_) #[true, true, true, true, true, true, true, true, true, true, true, true, false, false, false, false, false, false, false, false, false, false, false, false, false, false] rfl rfl (any_of HT_.out (by kernel_rfl)) (fun _ _ _ h => h) (Or.inl ⟨by rfl, ?_⟩) ?_ ?_
                      rotate_left
                      · intro w'
                        go_simp
                        with_reducible rfl
                      rotate_left
                      · simp only [Act.put, List.setIfInBounds_toArray, List.set_cons_zero, List.set_cons_succ, i64_w, i32_w]
                        rfl
                      refine one_ (i := 12) (N := some 51) #[true, true, true, true, true, true, true, true, true, true, true, true, true, false, false, false, false, false, false, false, false, false, false, false, false, false] rfl rfl (one_of HT_.out (by kernel_rfl)) (by decide) (fun K hK => ?_)
                      refine goes_ Tryd.func15 (by kernel_rfl) rfl #[.slice Ao47 t121.length co47, .slice A46 (l1.drop 10).length (c1 - 10)] (by rfl) rfl rfl (by (try simp only [List.map_toArray, List.map_cons, List.map_nil]); first | done | (rw [show (l1.drop 10).length = (l1.length - 10) from List.length_drop] <;> rfl) | rfl | (simp only [List.length_drop, List.length_take]; rfl)) ?_
                      with_reducible refine (bytes_Equal.calls _ _ t121 _ _ (l1.drop 10) true _ ?side1 ?side2 ?side3 ?side4 A33.out).mono ?_
                      (case side1 => repeat (first | exact (Kd.R_reads' HO_7.out).2.2 | (with_reducible refine Kd.C_alloc ?_ _) | (with_reducible refine Kd.C_drewN ?_ _) | (with_reducible refine Kd.C_drew ?_)))
                      (case side2 => exact (Kd.R_reads' HO_7.out).2.1)
                      (case side3 => repeat (first | exact (Kd.C_below HR129.out (by repeat (first | (with_reducible first | exact HB.out | apply below_alloc | apply pw_below_drewN | apply below_drew1 | refine below_set ?_ GE111.out | refine below_set ?_ GE125.out) | exact HB.out))) | (with_reducible refine Kd.C_alloc ?_ _) | (with_reducible refine Kd.C_drewN ?_ _) | (with_reducible refine Kd.C_drew ?_)))
                      (case side4 => exact HC129.out)
                      rintro e w' ⟨rfl, ⟨nd, rfl⟩⟩
                      refine ⟨_, rfl, ?_⟩
                      refine hK.out _ _ ⟨(blk_cell BK125.out 0).trans rfl, (blk_cell BK125.out 1).trans rfl, (blk_cell BK125.out 2).trans rfl, (blk_cell BK125.out 3).trans rfl, (blk_cell BK111.out 0).trans rfl, (blk_cell BK111.out 1).trans rfl, (blk_cell BK111.out 2).trans rfl, (blk_cell BK111.out 3).trans rfl, (blk_cell BK111.out 4).trans rfl, (blk_cell BK111.out 5).trans rfl, (blk_cell BK111.out 6).trans rfl, (blk_cell BK111.out 7).trans rfl, (blk_cell BK111.out 8).trans rfl, (blk_cell BK111.out 9).trans rfl⟩ (fun hHeld => ?_)
                      clear hK K
                      refine norm_ (a' := ?_) ?_ ?_
                      rotate_left
                      · show Act.put _ (some 51) _ = _
                        simp only [Act.put, List.setIfInBounds_toArray, List.set_cons_zero, List.set_cons_succ, i64_w, i32_w]
                        rfl
                      refine pure_ (i := 13) (N := some 52) (v := ?_) (a' := ?_) #[true, true, true, true, true, true, true, true, true, true, true, true, true, true, false, false, false, false, false, false, false, false, false, false, false, false] rfl rfl (any_of HT_.out (by kernel_rfl)) (fun _ _ _ h => h) (Or.inl ⟨by rfl, ?_⟩) ?_ ?_
                      rotate_left
                      · intro w'
                        go_simp
                        with_reducible rfl
                      rotate_left
                      · simp only [Act.put, List.setIfInBounds_toArray, List.set_cons_zero, List.set_cons_succ, i64_w, i32_w]
                        rfl
                      refine pure_ (i := 14) (N := some 53) (v := ?_) (a' := ?_) #[true, true, true, true, true, true, true, true, true, true, true, true, true, true, true, false, false, false, false, false, false, false, false, false, false, false] rfl rfl (any_of HT_.out (by kernel_rfl)) (fun _ _ _ h => h) (Or.inl ⟨by rfl, ?_⟩) ?_ ?_
                      rotate_left
                      · intro w'
                        go_simp
                        with_reducible rfl
                      rotate_left
                      · simp only [Act.put, List.setIfInBounds_toArray, List.set_cons_zero, List.set_cons_succ, i64_w, i32_w]
                        rfl
                      refine pure_ (i := 18) (N := some 57) (v := ?_) (a' := ?_) #[true, true, true, true, true, true, true, true, true, true, true, true, true, true, true, false, false, false, true, false, false, false, false, false, false, false] rfl rfl (any_of HT_.out (by kernel_rfl)) (fun _ _ _ h => h) (Or.inl ⟨by rfl, ?_⟩) ?_ ?_
                      rotate_left
                      · intro w'
                        go_simp
                        with_reducible rfl
                      rotate_left
                      · simp only [Act.put, List.setIfInBounds_toArray, List.set_cons_zero, List.set_cons_succ, i64_w, i32_w]
                        rfl
                      refine take_ (i := 15) (N := some 54) (v := ?_) (a' := ?_) #[true, true, true, true, true, true, true, true, true, true, true, true, true, true, true, true, false, false, true, false, false, false, false, false, false, false] rfl rfl (take_ofW HT_.out HW_.out (by kernel_rfl)) (fun _ _ _ h => h) (Or.inl ⟨by rfl, ?_⟩) hHeld ?_ ?_
                      rotate_left
                      · rintro w' ⟨s0, s1, s2, s3, s4, s5, s6, s7, s8, s9, s10, s11, s12, s13⟩
                        go_simp
                        with_reducible rfl
                      rotate_left
                      · simp only [Act.put, List.setIfInBounds_toArray, List.set_cons_zero, List.set_cons_succ, i64_w, i32_w]
                        rfl
                      refine take_ (i := 16) (N := some 55) (v := ?_) (a' := ?_) #[true, true, true, true, true, true, true, true, true, true, true, true, true, true, true, true, true, false, true, false, false, false, false, false, false, false] rfl rfl (take_ofW HT_.out HW_.out (by kernel_rfl)) (fun _ _ _ h => h) (Or.inl ⟨by rfl, ?_⟩) hHeld ?_ ?_
                      rotate_left
                      · rintro w' ⟨s0, s1, s2, s3, s4, s5, s6, s7, s8, s9, s10, s11, s12, s13⟩
                        go_simp
                        with_reducible rfl
                      rotate_left
                      · simp only [Act.put, List.setIfInBounds_toArray, List.set_cons_zero, List.set_cons_succ, i64_w, i32_w]
                        rfl
                      refine one_ (i := 17) (N := some 56) #[true, true, true, true, true, true, true, true, true, true, true, true, true, true, true, true, true, true, true, false, false, false, false, false, false, false] rfl rfl (one_of HT_.out (by kernel_rfl)) (by decide) (fun K hK => ?_)
                      refine goes_ Tryd.func17 (by kernel_rfl) rfl #[.agg #[.int .u16 a0_0, .int .u16 a0_1, .int .u16 a0_2, .int .u16 a0_3, .int .u16 a0_4, .int .u8 a0_5, .int .u8 a0_6, .int .u32 a0_7, .int .u32 a0_8, .bool a0_9]] (by rfl) rfl rfl (by (try simp only [List.map_toArray, List.map_cons, List.map_nil]); first | done | rfl | (simp only [List.length_drop, List.length_take]; rfl)) ?_
                      with_reducible refine (spec_PacketLong.calls a0_0 a0_1 a0_2 a0_3 a0_4 a0_5 a0_6 a0_7 a0_8 a0_9 t131 _ A35.out).mono ?_
                      rintro e w48 ⟨rfl, hb⟩
                      refine ⟨_, rfl, ?_⟩
                      have n0_ := Aside0.mk (Kd.R_below (by (with_reducible repeat (first | apply Kd.R_alloc | apply Kd.R_drewN | apply Kd.R_drew)); exact HO_7.out) hb)
                      have n1_ := Aside0.mk (blk_below (g := gb111) (o := .cells #[.int .u16 a0_0, .int .u16 a0_1, .int .u16 a0_2, .int .u16 a0_3, .int .u16 a0_4, .int .u8 a0_5, .int .u8 a0_6, .int .u32 a0_7, .int .u32 a0_8, .bool a0_9] 34 (0, 0)) (by (with_reducible repeat (first | refine blk_drewN ?_ _ | refine blk_drew ?_ | refine blk_alloc ?_ _)); exact BK111.out) hb)
                      have n2_ := Aside0.mk (blk_below (g := gb125) (o := .cells #[.int .u32 t116, .int .u8 t117, .int .u8 t118, .int .u16 t119] 28 (0, 0)) (by (with_reducible repeat (first | refine blk_drewN ?_ _ | refine blk_drew ?_ | refine blk_alloc ?_ _)); exact BK125.out) hb)
                      have n3_ := Aside0.mk (below_step (by repeat (first | (with_reducible first | exact HB.out | apply below_alloc | apply pw_below_drewN | apply below_drew1 | refine below_set ?_ GE111.out | refine below_set ?_ GE125.out) | exact HB.out)) hb)
                      clear HO_7
                      clear BK111
                      clear BK125
                      clear HB
                      have HO_7 := n0_
                      have BK111 := n1_
                      have BK125 := n2_
                      have HB := n3_
                      clear n0_ n1_ n2_ n3_
                      (try clear hb)
                      (try clear hb2)
                      (try clear hk)
                      (try clear hi)
                      refine hK.out _ _ ⟨(blk_cell BK125.out 0).trans rfl, (blk_cell BK125.out 1).trans rfl, (blk_cell BK125.out 2).trans rfl, (blk_cell BK125.out 3).trans rfl, (blk_cell BK111.out 0).trans rfl, (blk_cell BK111.out 1).trans rfl, (blk_cell BK111.out 2).trans rfl, (blk_cell BK111.out 3).trans rfl, (blk_cell BK111.out 4).trans rfl, (blk_cell BK111.out 5).trans rfl, (blk_cell BK111.out 6).trans rfl, (blk_cell BK111.out 7).trans rfl, (blk_cell BK111.out 8).trans rfl, (blk_cell BK111.out 9).trans rfl⟩ (fun hHeld => ?_)
                      clear hK K
                      refine norm_ (a' := ?_) ?_ ?_
                      rotate_left
                      · show Act.put _ (some 56) _ = _
                        simp only [Act.put, List.setIfInBounds_toArray, List.set_cons_zero, List.set_cons_succ, i64_w, i32_w]
                        rfl
                      refine one_ (i := 19) (N := some 58) #[true, true, true, true, true, true, true, true, true, true, true, true, true, true, true, true, true, true, true, true, false, false, false, false, false, false] rfl rfl (one_of HT_.out (by kernel_rfl)) (by decide) (fun K hK => ?_)
                      refine goes_ Tryd.func16 (by kernel_rfl) rfl #[.bool t131, .slice A1 l1.length c1, .int .u16 10] (by rfl) rfl rfl (by (try simp only [List.map_toArray, List.map_cons, List.map_nil]); first | done | rfl | (simp only [List.length_drop, List.length_take]; rfl)) ?_
                      with_reducible refine (spec_PacketHeadOf.calls kj10 t131 _ _ l1 10 t132 t133 t134 t135 _ ?side1 ?side2 A36.out).mono ?_
                      (case side1 => repeat (first | exact (Kd.C_below HR1.out HB.out) | (with_reducible refine Kd.C_alloc ?_ _) | (with_reducible refine Kd.C_drewN ?_ _) | (with_reducible refine Kd.C_drew ?_)))
                      (case side2 => exact HC1.out)
                      rintro e w49 ⟨rfl, hb⟩
                      refine ⟨_, rfl, ?_⟩
                      have n0_ := Aside0.mk (Kd.R_below (by (with_reducible repeat (first | apply Kd.R_alloc | apply Kd.R_drewN | apply Kd.R_drew)); exact HO_7.out) hb)
                      have n1_ := Aside0.mk (blk_below (g := gb111) (o := .cells #[.int .u16 a0_0, .int .u16 a0_1, .int .u16 a0_2, .int .u16 a0_3, .int .u16 a0_4, .int .u8 a0_5, .int .u8 a0_6, .int .u32 a0_7, .int .u32 a0_8, .bool a0_9] 34 (0, 0)) (by (with_reducible repeat (first | refine blk_drewN ?_ _ | refine blk_drew ?_ | refine blk_alloc ?_ _)); exact BK111.out) hb)
                      have n2_ := Aside0.mk (blk_below (g := gb125) (o := .cells #[.int .u32 t116, .int .u8 t117, .int .u8 t118, .int .u16 t119] 28 (0, 0)) (by (with_reducible repeat (first | refine blk_drewN ?_ _ | refine blk_drew ?_ | refine blk_alloc ?_ _)); exact BK125.out) hb)
                      have n3_ := Aside0.mk (below_step (by repeat (first | (with_reducible first | exact HB.out | apply below_alloc | apply pw_below_drewN | apply below_drew1 | refine below_set ?_ GE111.out | refine below_set ?_ GE125.out) | exact HB.out)) hb)
                      clear HO_7
                      clear BK111
                      clear BK125
                      clear HB
                      have HO_7 := n0_
                      have BK111 := n1_
                      have BK125 := n2_
                      have HB := n3_
                      clear n0_ n1_ n2_ n3_
                      (try clear hb)
                      (try clear hb2)
                      (try clear hk)
                      (try clear hi)
                      refine hK.out _ _ ⟨(blk_cell BK125.out 0).trans rfl, (blk_cell BK125.out 1).trans rfl, (blk_cell BK125.out 2).trans rfl, (blk_cell BK125.out 3).trans rfl, (blk_cell BK111.out 0).trans rfl, (blk_cell BK111.out 1).trans rfl, (blk_cell BK111.out 2).trans rfl, (blk_cell BK111.out 3).trans rfl, (blk_cell BK111.out 4).trans rfl, (blk_cell BK111.out 5).trans rfl, (blk_cell BK111.out 6).trans rfl, (blk_cell BK111.out 7).trans rfl, (blk_cell BK111.out 8).trans rfl, (blk_cell BK111.out 9).trans rfl⟩ (fun hHeld => ?_)
                      clear hK K
                      refine norm_ (a' := ?_) ?_ ?_
                      rotate_left
                      · show Act.put _ (some 58) _ = _
                        simp only [Act.put, List.setIfInBounds_toArray, List.set_cons_zero, List.set_cons_succ, i64_w, i32_w]
                        rfl
                      refine pure_ (i := 20) (N := some 59) (v := ?_) (a' := ?_) #[true, true, true, true, true, true, true, true, true, true, true, true, true, true, true, true, true, true, true, true, true, false, false, false, false, false] rfl rfl (any_of HT_.out (by kernel_rfl)) (fun _ _ _ h => h) (Or.inl ⟨by rfl, ?_⟩) ?_ ?_
                      rotate_left
                      · intro w'
                        go_simp
                        with_reducible rfl
                      rotate_left
                      · simp only [Act.put, List.setIfInBounds_toArray, List.set_cons_zero, List.set_cons_succ, i64_w, i32_w]
                        rfl
                      refine pure_ (i := 21) (N := some 60) (v := ?_) (a' := ?_) #[true, true, true, true, true, true, true, true, true, true, true, true, true, true, true, true, true, true, true, true, true, true, false, false, false, false] rfl rfl (any_of HT_.out (by kernel_rfl)) (fun _ _ _ h => h) (Or.inl ⟨by rfl, ?_⟩) ?_ ?_
                      rotate_left
                      · intro w'
                        go_simp
                        with_reducible rfl
                      rotate_left
                      · simp only [Act.put, List.setIfInBounds_toArray, List.set_cons_zero, List.set_cons_succ, i64_w, i32_w]
                        rfl
                      refine pure_ (i := 22) (N := some 61) (v := ?_) (a' := ?_) #[true, true, true, true, true, true, true, true, true, true, true, true, true, true, true, true, true, true, true, true, true, true, true, false, false, false] rfl rfl (any_of HT_.out (by kernel_rfl)) (fun _ _ _ h => h) (Or.inl ⟨by rfl, ?_⟩) ?_ ?_
                      rotate_left
                      · intro w'
                        go_simp
                        with_reducible rfl
                      rotate_left
                      · simp only [Act.put, List.setIfInBounds_toArray, List.set_cons_zero, List.set_cons_succ, i64_w, i32_w]
                        rfl
                      refine pure_ (i := 23) (N := some 62) (v := undef) (a' := ?_) #[true, true, true, true, true, true, true, true, true, true, true, true, true, true, true, true, true, true, true, true, true, true, true, true, false, false] rfl rfl (any_of HT_.out (by kernel_rfl)) (fun _ _ _ h => h) (Or.inr ⟨by rfl, rfl⟩) ?_ ?_
                      rotate_left
                      · simp only [Act.put, List.setIfInBounds_toArray, List.set_cons_zero, List.set_cons_succ, i64_w, i32_w]
                        rfl
                      refine pure_ (i := 24) (N := some 63) (v := ?_) (a' := ?_) #[true, true, true, true, true, true, true, true, true, true, true, true, true, true, true, true, true, true, true, true, true, true, true, true, true, false] rfl rfl (any_of HT_.out (by kernel_rfl)) (fun _ _ _ h => h) (Or.inl ⟨by rfl, ?_⟩) ?_ ?_
                      rotate_left
                      · intro w'
                        go_simp
                        with_reducible rfl
                      rotate_left
                      · simp only [Act.put, List.setIfInBounds_toArray, List.set_cons_zero, List.set_cons_succ, i64_w, i32_w]
                        rfl
                      refine pure_ (i := 25) (N := some 4) (v := ?_) (a' := ?_) #[true, true, true, true, true, true, true, true, true, true, true, true, true, true, true, true, true, true, true, true, true, true, true, true, true, true] rfl rfl (any_of HT_.out (by kernel_rfl)) (fun _ _ _ h => h) (Or.inl ⟨by rfl, ?_⟩) ?_ ?_
                      rotate_left
                      · intro w'
                        go_simp
                        with_reducible rfl
                      rotate_left
                      · simp only [Act.put, List.setIfInBounds_toArray, List.set_cons_zero, List.set_cons_succ, i64_w, i32_w]
                        rfl
                      refine done_ (done_of HT_.out (by kernel_rfl)) ?_
                      try go_wp2
                      go_ret
                      exact ⟨by first | rfl | (simp [errW_none, errW_some] <;> rfl) | (simp [*, errW_none, errW_some] <;> rfl), by repeat (first | (with_reducible first | exact HB.out | apply below_alloc | apply pw_below_drewN | apply below_drew1 | refine below_set ?_ GE111.out | refine below_set ?_ GE125.out) | exact HB.out)⟩
                  · replace c34 := Bool.eq_false_iff.mpr c34
                    subst c34
                    have H1 : (some false) = some r := by rw [if_neg (show ¬ (false = true) by decide)] at H; exact H
                    clear H
                    have H := H1
                    clear H1
                    obtain rfl := Option.some.inj H
                    try go_wp2
                    have n0_ := Aside0.mk (Kd.R_drew HO_7.out)
                    have n1_ := Aside0.mk (blk_drew BK111.out)
                    have n2_ := Aside0.mk (blk_drew BK125.out)
                    have n3_ := Aside0.mk (below_drew1 HB.out)
                    clear HO_7
                    clear BK111
                    clear BK125
                    clear HB
                    have HO_7 := n0_
                    have BK111 := n1_
                    have BK125 := n2_
                    have HB := n3_
                    clear n0_ n1_ n2_ n3_
                    refine start_ (n := 26) (S := fun w' => True) (ds := []) #[false, false, false, false, false, false, false, false, false, false, false, false, false, false, false, false, false, false, false, false, false, false, false, false, false, false] (by kernel_rfl) rfl rfl trivial (fun hHeld => ?_); refine with_tabW laws_FnPacketDataRead.tab8 laws_FnPacketDataRead.bits8 (fun HT_ HW_ => ?_)
                    generalize wc.drew = w50 at HO_7 BK111 BK125 HB hHeld ⊢
                    refine pure_ (i := 0) (N := some 39) (v := ?_) (a' := ?_) #[true, false, false, false, false, false, false, false, false, false, false, false, false, false, false, false, false, false, false, false, false, false, false, false, false, false] rfl rfl (any_of HT_.out (by kernel_rfl)) (fun _ _ _ h => h) (Or.inl ⟨by rfl, ?_⟩) ?_ ?_
                    rotate_left
                    · intro w'
                      go_simp
                      with_reducible rfl
                    rotate_left
                    · simp only [Act.put, List.setIfInBounds_toArray, List.set_cons_zero, List.set_cons_succ, i64_w, i32_w]
                      rfl
                    refine pure_ (i := 1) (N := some 40) (v := ?_) (a' := ?_) #[true, true, false, false, false, false, false, false, false, false, false, false, false, false, false, false, false, false, false, false, false, false, false, false, false, false] rfl rfl (any_of HT_.out (by kernel_rfl)) (fun _ _ _ h => h) (Or.inl ⟨by rfl, ?_⟩) ?_ ?_
                    rotate_left
                    · intro w'
                      go_simp
                      with_reducible rfl
                    rotate_left
                    · simp only [Act.put, List.setIfInBounds_toArray, List.set_cons_zero, List.set_cons_succ, i64_w, i32_w]
                      rfl
                    refine pure_ (i := 2) (N := some 41) (v := ?_) (a' := ?_) #[true, true, true, false, false, false, false, false, false, false, false, false, false, false, false, false, false, false, false, false, false, false, false, false, false, false] rfl rfl (any_of HT_.out (by kernel_rfl)) (fun _ _ _ h => h) (Or.inl ⟨by rfl, ?_⟩) ?_ ?_
                    rotate_left
                    · intro w'
                      go_simp
                      with_reducible rfl
                    rotate_left
                    · simp only [Act.put, List.setIfInBounds_toArray, List.set_cons_zero, List.set_cons_succ, i64_w, i32_w]
                      rfl
                    refine pure_ (i := 3) (N := some 42) (v := ?_) (a' := ?_) #[true, true, true, true, false, false, false, false, false, false, false, false, false, false, false, false, false, false, false, false, false, false, false, false, false, false] rfl rfl (any_of HT_.out (by kernel_rfl)) (fun _ _ _ h => h) (Or.inl ⟨by rfl, ?_⟩) ?_ ?_
                    rotate_left
                    · intro w'
                      go_simp
                      with_reducible rfl
                    rotate_left
                    · simp only [Act.put, List.setIfInBounds_toArray, List.set_cons_zero, List.set_cons_succ, i64_w, i32_w]
                      rfl
                    refine one_ (i := 4) (N := some 43) #[true, true, true, true, true, false, false, false, false, false, false, false, false, false, false, false, false, false, false, false, false, false, false, false, false, false] rfl rfl (one_of HT_.out (by kernel_rfl)) (by decide) (fun K hK => ?_)
                    refine goes_ Tryd.func14 (by kernel_rfl) rfl #[.slice A1 l1.length c1, .int .i64 8, .int .i64 2] (by rfl) rfl rfl (by (try simp only [List.map_toArray, List.map_cons, List.map_nil]); first | done | rfl | (simp only [List.length_drop, List.length_take]; rfl)) ?_
                    with_reducible refine (spec_PacketGet.calls kj10 _ _ l1 8 2 t128 _ ?side1 ?side2 A30.out).mono ?_
                    (case side1 => repeat (first | exact (Kd.C_below HR1.out HB.out) | (with_reducible refine Kd.C_alloc ?_ _) | (with_reducible refine Kd.C_drewN ?_ _) | (with_reducible refine Kd.C_drew ?_)))
                    (case side2 => exact HC1.out)
                    rintro e w' ⟨rfl, ⟨nd, rfl⟩⟩
                    refine ⟨_, rfl, ?_⟩
                    obtain ⟨i051, hi051, _, hsz51, _⟩ := info_parts info5
                    obtain ⟨A51, hcut51, hA51, hC51⟩ := print_drop_of (P := Tryd.prog) (Value.int .u8) 0 24 5 .i64 Tryd.underlying24 hi051 hsz51 A1 c1 l1 10 (by omega) (of_decide_eq_true (by first | (with_reducible assumption) | assumption)) HC1.out
                    have HR129 := Aside0.mk (Kd.C_of_reads (h1 := fun _ => rfl) (hA51 _ (Kd.reads_of_C HR1.out)))
                    have HC129 := Aside0.mk hC51
                    clear hA51 hC51 hi051 hsz51
                    obtain ⟨Ao52, co52, eo52⟩ := Kd.R_slice HO_7.out
                    (first | subst eo52 | (injection eo52 with f1_ f2_ f3_; have f4_ := f1_.symm; have f5_ := f3_.symm; clear f1_ f2_ f3_; subst f4_; subst f5_))
                    refine hK.out _ _ trivial (fun hHeld => ?_)
                    clear hK K
                    refine norm_ (a' := ?_) ?_ ?_
                    rotate_left
                    · show Act.put _ (some 43) _ = _
                      simp only [Act.put, List.setIfInBounds_toArray, List.set_cons_zero, List.set_cons_succ, i64_w, i32_w]
                      rfl
                    refine pure_ (i := 5) (N := some 44) (v := ?_) (a' := ?_) #[true, true, true, true, true, true, false, false, false, false, false, false, false, false, false, false, false, false, false, false, false, false, false, false, false, false] rfl rfl (any_of HT_.out (by kernel_rfl)) (fun _ _ _ h => h) (Or.inl ⟨by rfl, ?_⟩) ?_ ?_
                    rotate_left
                    · intro w'
                      go_simp
                      with_reducible rfl
                    rotate_left
                    · simp only [Act.put, List.setIfInBounds_toArray, List.set_cons_zero, List.set_cons_succ, i64_w, i32_w]
                      rfl
                    refine pure_ (i := 6) (N := some 45) (v := ?_) (a' := ?_) #[true, true, true, true, true, true, true, false, false, false, false, false, false, false, false, false, false, false, false, false, false, false, false, false, false, false] rfl rfl (any_of HT_.out (by kernel_rfl)) (fun _ _ _ h => h) (Or.inl ⟨by rfl, ?_⟩) ?_ ?_
                    rotate_left
                    · intro w'
                      go_simp
                      with_reducible rfl
                    rotate_left
                    · simp only [Act.put, List.setIfInBounds_toArray, List.set_cons_zero, List.set_cons_succ, i64_w, i32_w]
                      rfl
                    refine pure_ (i := 7) (N := some 46) (v := ?_) (a' := ?_) #[true, true, true, true, true, true, true, true, false, false, false, false, false, false, false, false, false, false, false, false, false, false, false, false, false, false] rfl rfl (any_of HT_.out (by kernel_rfl)) (fun _ _ _ h => h) (Or.inl ⟨by rfl, ?_⟩) ?_ ?_
                    rotate_left
                    · intro w'
                      go_simp
                      with_reducible rfl
                    rotate_left
                    · simp only [Act.put, List.setIfInBounds_toArray, List.set_cons_zero, List.set_cons_succ, i64_w, i32_w]
                      rfl
                    refine pure_ (i := 8) (N := some 47) (v := ?_) (a' := ?_) #[true, true, true, true, true, true, true, true, true, false, false, false, false, false, false, false, false, false, false, false, false, false, false, false, false, false] rfl rfl (any_of HT_.out (by kernel_rfl)) (fun _ _ _ h => h) (Or.inl ⟨by rfl, ?_⟩) ?_ ?_
                    rotate_left
                    · intro w'
                      go_simp
                      with_reducible rfl
                    rotate_left
                    · simp only [Act.put, List.setIfInBounds_toArray, List.set_cons_zero, List.set_cons_succ, i64_w, i32_w]
                      rfl
                    refine pure_ (i := 9) (N := some 48) (v := ?_) (a' := ?_) #[true, true, true, true, true, true, true, true, true, true, false, false, false, false, false, false, false, false, false, false, false, false, false, false, false, false] rfl rfl (any_of HT_.out (by kernel_rfl)) (fun _ _ _ h => h) (Or.inl ⟨by rfl, ?_⟩) ?_ ?_
                    rotate_left
                    · intro w'
                      go_simp
                      with_reducible rfl
                    rotate_left
                    · simp only [Act.put, List.setIfInBounds_toArray, List.set_cons_zero, List.set_cons_succ, i64_w, i32_w]
                      rfl
                    refine pure_ (i := 10) (N := some 49) (v := ?_) (a' := ?_) #[true, true, true, true, true, true, true, true, true, true, true, false, false, false, false, false, false, false, false, false, false, false, false, false, false, false] rfl rfl (any_of HT_.out (by kernel_rfl)) (fun _ _ _ h => h) (Or.inl ⟨by rfl, ?_⟩) ?_ ?_
                    rotate_left
                    · intro w'
                      go_simp
                      with_reducible rfl
                    rotate_left
                    · simp only [Act.put, List.setIfInBounds_toArray, List.set_cons_zero, List.set_cons_succ, i64_w, i32_w]
                      rfl
                    refine pure_ (i := 11) (N := some 50) (v := ?_) (a' := ?_) #[true, true, true, true, true, true, true, true, true, true, true, true, false, false, false, false, false, false, false, false, false, false, false, false, false, false] rfl rfl (any_of HT_.out (by kernel_rfl)) (fun _ _ _ h => h) (Or.inl ⟨by rfl, ?_⟩) ?_ ?_
                    rotate_left
                    · intro w'
                      go_simp
                      with_reducible rfl
                    rotate_left
                    · simp only [Act.put, List.setIfInBounds_toArray, List.set_cons_zero, List.set_cons_succ, i64_w, i32_w]
                      rfl
                    refine one_ (i := 12) (N := some 51) #[true, true, true, true, true, true, true, true, true, true, true, true, true, false, false, false, false, false, false, false, false, false, false, false, false, false] rfl rfl (one_of HT_.out (by kernel_rfl)) (by decide) (fun K hK => ?_)
                    refine goes_ Tryd.func15 (by kernel_rfl) rfl #[.slice Ao52 t121.length co52, .slice A51 (l1.drop 10).length (c1 - 10)] (by rfl) rfl rfl (by (try simp only [List.map_toArray, List.map_cons, List.map_nil]); first | done | (rw [show (l1.drop 10).length = (l1.length - 10) from List.length_drop] <;> rfl) | rfl | (simp only [List.length_drop, List.length_take]; rfl)) ?_
                    with_reducible refine (bytes_Equal.calls _ _ t121 _ _ (l1.drop 10) false _ ?side1 ?side2 ?side3 ?side4 A33.out).mono ?_
                    (case side1 => repeat (first | exact (Kd.R_reads' HO_7.out).2.2 | (with_reducible refine Kd.C_alloc ?_ _) | (with_reducible refine Kd.C_drewN ?_ _) | (with_reducible refine Kd.C_drew ?_)))
                    (case side2 => exact (Kd.R_reads' HO_7.out).2.1)
                    (case side3 => repeat (first | exact (Kd.C_below HR129.out (by repeat (first | (with_reducible first | exact HB.out | apply below_alloc | apply pw_below_drewN | apply below_drew1 | refine below_set ?_ GE111.out | refine below_set ?_ GE125.out) | exact HB.out))) | (with_reducible refine Kd.C_alloc ?_ _) | (with_reducible refine Kd.C_drewN ?_ _) | (with_reducible refine Kd.C_drew ?_)))
                    (case side4 => exact HC129.out)
                    rintro e w' ⟨rfl, ⟨nd, rfl⟩⟩
                    refine ⟨_, rfl, ?_⟩
                    refine hK.out _ _ trivial (fun hHeld => ?_)
                    clear hK K
                    refine norm_ (a' := ?_) ?_ ?_
                    rotate_left
                    · show Act.put _ (some 51) _ = _
                      simp only [Act.put, List.setIfInBounds_toArray, List.set_cons_zero, List.set_cons_succ, i64_w, i32_w]
                      rfl
                    refine pure_ (i := 13) (N := some 52) (v := ?_) (a' := ?_) #[true, true, true, true, true, true, true, true, true, true, true, true, true, true, false, false, false, false, false, false, false, false, false, false, false, false] rfl rfl (any_of HT_.out (by kernel_rfl)) (fun _ _ _ h => h) (Or.inl ⟨by rfl, ?_⟩) ?_ ?_
                    rotate_left
                    · intro w'
                      go_simp
                      with_reducible rfl
                    rotate_left
                    · simp only [Act.put, List.setIfInBounds_toArray, List.set_cons_zero, List.set_cons_succ, i64_w, i32_w]
                      rfl
                    refine pure_ (i := 14) (N := some 53) (v := ?_) (a' := ?_) #[true, true, true, true, true, true, true, true, true, true, true, true, true, true, true, false, false, false, false, false, false, false, false, false, false, false] rfl rfl (any_of HT_.out (by kernel_rfl)) (fun _ _ _ h => h) (Or.inl ⟨by rfl, ?_⟩) ?_ ?_
                    rotate_left
                    · intro w'
                      go_simp
                      with_reducible rfl
                    rotate_left
                    · simp only [Act.put, List.setIfInBounds_toArray, List.set_cons_zero, List.set_cons_succ, i64_w, i32_w]
                      rfl
                    refine pure_ (i := 15) (N := some 54) (v := undef) (a' := ?_) #[true, true, true, true, true, true, true, true, true, true, true, true, true, true, true, true, false, false, false, false, false, false, false, false, false, false] rfl rfl (any_of HT_.out (by kernel_rfl)) (fun _ _ _ h => h) (Or.inr ⟨by rfl, rfl⟩) ?_ ?_
                    rotate_left
                    · simp only [Act.put, List.setIfInBounds_toArray, List.set_cons_zero, List.set_cons_succ, i64_w, i32_w]
                      rfl
                    refine pure_ (i := 16) (N := some 55) (v := undef) (a' := ?_) #[true, true, true, true, true, true, true, true, true, true, true, true, true, true, true, true, true, false, false, false, false, false, false, false, false, false] rfl rfl (any_of HT_.out (by kernel_rfl)) (fun _ _ _ h => h) (Or.inr ⟨by rfl, rfl⟩) ?_ ?_
                    rotate_left
                    · simp only [Act.put, List.setIfInBounds_toArray, List.set_cons_zero, List.set_cons_succ, i64_w, i32_w]
                      rfl
                    refine pure_ (i := 17) (N := some 56) (v := undef) (a' := ?_) #[true, true, true, true, true, true, true, true, true, true, true, true, true, true, true, true, true, true, false, false, false, false, false, false, false, false] rfl rfl (any_of HT_.out (by kernel_rfl)) (fun _ _ _ h => h) (Or.inr ⟨by rfl, rfl⟩) ?_ ?_
                    rotate_left
                    · simp only [Act.put, List.setIfInBounds_toArray, List.set_cons_zero, List.set_cons_succ, i64_w, i32_w]
                      rfl
                    refine pure_ (i := 18) (N := some 57) (v := undef) (a' := ?_) #[true, true, true, true, true, true, true, true, true, true, true, true, true, true, true, true, true, true, true, false, false, false, false, false, false, false] rfl rfl (any_of HT_.out (by kernel_rfl)) (fun _ _ _ h => h) (Or.inr ⟨by rfl, rfl⟩) ?_ ?_
                    rotate_left
                    · simp only [Act.put, List.setIfInBounds_toArray, List.set_cons_zero, List.set_cons_succ, i64_w, i32_w]
                      rfl
                    refine pure_ (i := 19) (N := some 58) (v := undef) (a' := ?_) #[true, true, true, true, true, true, true, true, true, true, true, true, true, true, true, true, true, true, true, true, false, false, false, false, false, false] rfl rfl (any_of HT_.out (by kernel_rfl)) (fun _ _ _ h => h) (Or.inr ⟨by rfl, rfl⟩) ?_ ?_
                    rotate_left
                    · simp only [Act.put, List.setIfInBounds_toArray, List.set_cons_zero, List.set_cons_succ, i64_w, i32_w]
                      rfl
                    refine pure_ (i := 20) (N := some 59) (v := undef) (a' := ?_) #[true, true, true, true, true, true, true, true, true, true, true, true, true, true, true, true, true, true, true, true, true, false, false, false, false, false] rfl rfl (any_of HT_.out (by kernel_rfl)) (fun _ _ _ h => h) (Or.inr ⟨by rfl, rfl⟩) ?_ ?_
                    rotate_left
                    · simp only [Act.put, List.setIfInBounds_toArray, List.set_cons_zero, List.set_cons_succ, i64_w, i32_w]
                      rfl
                    refine pure_ (i := 21) (N := some 60) (v := ?_) (a' := ?_) #[true, true, true, true, true, true, true, true, true, true, true, true, true, true, true, true, true, true, true, true, true, true, false, false, false, false] rfl rfl (any_of HT_.out (by kernel_rfl)) (fun _ _ _ h => h) (Or.inl ⟨by rfl, ?_⟩) ?_ ?_
                    rotate_left
                    · intro w'
                      go_simp
                      with_reducible rfl
                    rotate_left
                    · simp only [Act.put, List.setIfInBounds_toArray, List.set_cons_zero, List.set_cons_succ, i64_w, i32_w]
                      rfl
                    refine pure_ (i := 22) (N := some 61) (v := ?_) (a' := ?_) #[true, true, true, true, true, true, true, true, true, true, true, true, true, true, true, true, true, true, true, true, true, true, true, false, false, false] rfl rfl (any_of HT_.out (by kernel_rfl)) (fun _ _ _ h => h) (Or.inl ⟨by rfl, ?_⟩) ?_ ?_
                    rotate_left
                    · intro w'
                      go_simp
                      with_reducible rfl
                    rotate_left
                    · simp only [Act.put, List.setIfInBounds_toArray, List.set_cons_zero, List.set_cons_succ, i64_w, i32_w]
                      rfl
                    refine pure_ (i := 23) (N := some 62) (v := undef) (a' := ?_) #[true, true, true, true, true, true, true, true, true, true, true, true, true, true, true, true, true, true, true, true, true, true, true, true, false, false] rfl rfl (any_of HT_.out (by kernel_rfl)) (fun _ _ _ h => h) (Or.inr ⟨by rfl, rfl⟩) ?_ ?_
                    rotate_left
                    · simp only [Act.put, List.setIfInBounds_toArray, List.set_cons_zero, List.set_cons_succ, i64_w, i32_w]
                      rfl
                    refine pure_ (i := 24) (N := some 63) (v := ?_) (a' := ?_) #[true, true, true, true, true, true, true, true, true, true, true, true, true, true, true, true, true, true, true, true, true, true, true, true, true, false] rfl rfl (any_of HT_.out (by kernel_rfl)) (fun _ _ _ h => h) (Or.inl ⟨by rfl, ?_⟩) ?_ ?_
                    rotate_left
                    · intro w'
                      go_simp
                      with_reducible rfl
                    rotate_left
                    · simp only [Act.put, List.setIfInBounds_toArray, List.set_cons_zero, List.set_cons_succ, i64_w, i32_w]
                      rfl
                    refine pure_ (i := 25) (N := some 4) (v := ?_) (a' := ?_) #[true, true, true, true, true, true, true, true, true, true, true, true, true, true, true, true, true, true, true, true, true, true, true, true, true, true] rfl rfl (any_of HT_.out (by kernel_rfl)) (fun _ _ _ h => h) (Or.inl ⟨by rfl, ?_⟩) ?_ ?_
                    rotate_left
                    · intro w'
                      go_simp
                      with_reducible rfl
                    rotate_left
                    · simp only [Act.put, List.setIfInBounds_toArray, List.set_cons_zero, List.set_cons_succ, i64_w, i32_w]
                      rfl
                    refine done_ (done_of HT_.out (by kernel_rfl)) ?_
                    try go_wp2
                    go_ret
                    exact ⟨by first | rfl | (simp [errW_none, errW_some] <;> rfl) | (simp [*, errW_none, errW_some] <;> rfl), by repeat (first | (with_reducible first | exact HB.out | apply below_alloc | apply pw_below_drewN | apply below_drew1 | refine below_set ?_ GE111.out | refine below_set ?_ GE125.out) | exact HB.out)⟩
                · rw [if_neg c32] at H
                  exact absurd H (by simp)
              · rw [if_neg c31] at H
                have c31b0 : (t120 == (IntKind.u16.wrap (t128))) = false := beq_eq_false_iff_ne.mpr c31
                have c31b1 : (t120 != (IntKind.u16.wrap (t128))) = true := bne_iff_ne.mpr c31
                obtain rfl := Option.some.inj H
                try go_wp2
                have n0_ := Aside0.mk (Kd.R_drew HO_7.out)
                have n1_ := Aside0.mk (blk_drew BK111.out)
                have n2_ := Aside0.mk (blk_drew BK125.out)
                have n3_ := Aside0.mk (below_drew1 HB.out)
                clear HO_7
                clear BK111
                clear BK125
                clear HB
                have HO_7 := n0_
                have BK111 := n1_
                have BK125 := n2_
                have HB := n3_
                clear n0_ n1_ n2_ n3_
                refine start_ (n := 26) (S := fun w' => True) (ds := []) #[false, false, false, false, false, false, false, false, false, false, false, false, false, false, false, false, false, false, false, false, false, false, false, false, false, false] (by kernel_rfl) rfl rfl trivial (fun hHeld => ?_); refine with_tabW laws_FnPacketDataRead.tab8 laws_FnPacketDataRead.bits8 (fun HT_ HW_ => ?_)
                generalize wc.drew = w53 at HO_7 BK111 BK125 HB hHeld ⊢
                refine pure_ (i := 0) (N := some 39) (v := ?_) (a' := ?_) #[true, false, false, false, false, false, false, false, false, false, false, false, false, false, false, false, false, false, false, false, false, false, false, false, false, false] rfl rfl (any_of HT_.out (by kernel_rfl)) (fun _ _ _ h => h) (Or.inl ⟨by rfl, ?_⟩) ?_ ?_
                rotate_left
                · intro w'
                  go_simp
                  with_reducible rfl
                rotate_left
                · simp only [Act.put, List.setIfInBounds_toArray, List.set_cons_zero, List.set_cons_succ, i64_w, i32_w]
                  rfl
                refine pure_ (i := 1) (N := some 40) (v := ?_) (a' := ?_) #[true, true, false, false, false, false, false, false, false, false, false, false, false, false, false, false, false, false, false, false, false, false, false, false, false, false] rfl rfl (any_of HT_.out (by kernel_rfl)) (fun _ _ _ h => h) (Or.inl ⟨by rfl, ?_⟩) ?_ ?_
                rotate_left
                · intro w'
                  go_simp
                  with_reducible rfl
                rotate_left
                · simp only [Act.put, List.setIfInBounds_toArray, List.set_cons_zero, List.set_cons_succ, i64_w, i32_w]
                  rfl
                refine pure_ (i := 2) (N := some 41) (v := ?_) (a' := ?_) #[true, true, true, false, false, false, false, false, false, false, false, false, false, false, false, false, false, false, false, false, false, false, false, false, false, false] rfl rfl (any_of HT_.out (by kernel_rfl)) (fun _ _ _ h => h) (Or.inl ⟨by rfl, ?_⟩) ?_ ?_
                rotate_left
                · intro w'
                  go_simp
                  with_reducible rfl
                rotate_left
                · simp only [Act.put, List.setIfInBounds_toArray, List.set_cons_zero, List.set_cons_succ, i64_w, i32_w]
                  rfl
                refine pure_ (i := 3) (N := some 42) (v := ?_) (a' := ?_) #[true, true, true, true, false, false, false, false, false, false, false, false, false, false, false, false, false, false, false, false, false, false, false, false, false, false] rfl rfl (any_of HT_.out (by kernel_rfl)) (fun _ _ _ h => h) (Or.inl ⟨by rfl, ?_⟩) ?_ ?_
                rotate_left
                · intro w'
                  go_simp
                  with_reducible rfl
                rotate_left
                · simp only [Act.put, List.setIfInBounds_toArray, List.set_cons_zero, List.set_cons_succ, i64_w, i32_w]
                  rfl
                refine one_ (i := 4) (N := some 43) #[true, true, true, true, true, false, false, false, false, false, false, false, false, false, false, false, false, false, false, false, false, false, false, false, false, false] rfl rfl (one_of HT_.out (by kernel_rfl)) (by decide) (fun K hK => ?_)
                refine goes_ Tryd.func14 (by kernel_rfl) rfl #[.slice A1 l1.length c1, .int .i64 8, .int .i64 2] (by rfl) rfl rfl (by (try simp only [List.map_toArray, List.map_cons, List.map_nil]); first | done | rfl | (simp only [List.length_drop, List.length_take]; rfl)) ?_
                with_reducible refine (spec_PacketGet.calls kj10 _ _ l1 8 2 t128 _ ?side1 ?side2 A30.out).mono ?_
                (case side1 => repeat (first | exact (Kd.C_below HR1.out HB.out) | (with_reducible refine Kd.C_alloc ?_ _) | (with_reducible refine Kd.C_drewN ?_ _) | (with_reducible refine Kd.C_drew ?_)))
                (case side2 => exact HC1.out)
                rintro e w' ⟨rfl, ⟨nd, rfl⟩⟩
                refine ⟨_, rfl, ?_⟩
                refine hK.out _ _ trivial (fun hHeld => ?_)
                clear hK K
                refine norm_ (a' := ?_) ?_ ?_
                rotate_left
                · show Act.put _ (some 43) _ = _
                  simp only [Act.put, List.setIfInBounds_toArray, List.set_cons_zero, List.set_cons_succ, i64_w, i32_w]
                  rfl
                refine pure_ (i := 5) (N := some 44) (v := ?_) (a' := ?_) #[true, true, true, true, true, true, false, false, false, false, false, false, false, false, false, false, false, false, false, false, false, false, false, false, false, false] rfl rfl (any_of HT_.out (by kernel_rfl)) (fun _ _ _ h => h) (Or.inl ⟨by rfl, ?_⟩) ?_ ?_
                rotate_left
                · intro w'
                  go_simp
                  with_reducible rfl
                rotate_left
                · simp only [Act.put, List.setIfInBounds_toArray, List.set_cons_zero, List.set_cons_succ, i64_w, i32_w]
                  rfl
                refine pure_ (i := 6) (N := some 45) (v := ?_) (a' := ?_) #[true, true, true, true, true, true, true, false, false, false, false, false, false, false, false, false, false, false, false, false, false, false, false, false, false, false] rfl rfl (any_of HT_.out (by kernel_rfl)) (fun _ _ _ h => h) (Or.inl ⟨by rfl, ?_⟩) ?_ ?_
                rotate_left
                · intro w'
                  go_simp
                  with_reducible rfl
                rotate_left
                · simp only [Act.put, List.setIfInBounds_toArray, List.set_cons_zero, List.set_cons_succ, i64_w, i32_w]
                  rfl
                refine pure_ (i := 7) (N := some 46) (v := ?_) (a' := ?_) #[true, true, true, true, true, true, true, true, false, false, false, false, false, false, false, false, false, false, false, false, false, false, false, false, false, false] rfl rfl (any_of HT_.out (by kernel_rfl)) (fun _ _ _ h => h) (Or.inl ⟨by rfl, ?_⟩) ?_ ?_
                rotate_left
                · intro w'
                  go_simp
                  with_reducible rfl
                rotate_left
                · simp only [Act.put, List.setIfInBounds_toArray, List.set_cons_zero, List.set_cons_succ, i64_w, i32_w]
                  rfl
                refine pure_ (i := 8) (N := some 47) (v := ?_) (a' := ?_) #[true, true, true, true, true, true, true, true, true, false, false, false, false, false, false, false, false, false, false, false, false, false, false, false, false, false] rfl rfl (any_of HT_.out (by kernel_rfl)) (fun _ _ _ h => h) (Or.inl ⟨by rfl, ?_⟩) ?_ ?_
                rotate_left
                · intro w'
                  go_simp
                  with_reducible rfl
                rotate_left
                · simp only [Act.put, List.setIfInBounds_toArray, List.set_cons_zero, List.set_cons_succ, i64_w, i32_w]
                  rfl
                refine pure_ (i := 9) (N := some 48) (v := undef) (a' := ?_) #[true, true, true, true, true, true, true, true, true, true, false, false, false, false, false, false, false, false, false, false, false, false, false, false, false, false] rfl rfl (any_of HT_.out (by kernel_rfl)) (fun _ _ _ h => h) (Or.inr ⟨by rfl, rfl⟩) ?_ ?_
                rotate_left
                · simp only [Act.put, List.setIfInBounds_toArray, List.set_cons_zero, List.set_cons_succ, i64_w, i32_w]
                  rfl
                refine pure_ (i := 10) (N := some 49) (v := undef) (a' := ?_) #[true, true, true, true, true, true, true, true, true, true, true, false, false, false, false, false, false, false, false, false, false, false, false, false, false, false] rfl rfl (any_of HT_.out (by kernel_rfl)) (fun _ _ _ h => h) (Or.inr ⟨by rfl, rfl⟩) ?_ ?_
                rotate_left
                · simp only [Act.put, List.setIfInBounds_toArray, List.set_cons_zero, List.set_cons_succ, i64_w, i32_w]
                  rfl
                refine pure_ (i := 11) (N := some 50) (v := undef) (a' := ?_) #[true, true, true, true, true, true, true, true, true, true, true, true, false, false, false, false, false, false, false, false, false, false, false, false, false, false] rfl rfl (any_of HT_.out (by kernel_rfl)) (fun _ _ _ h => h) (Or.inr ⟨by rfl, rfl⟩) ?_ ?_
                rotate_left
                · simp only [Act.put, List.setIfInBounds_toArray, List.set_cons_zero, List.set_cons_succ, i64_w, i32_w]
                  rfl
                refine pure_ (i := 12) (N := some 51) (v := undef) (a' := ?_) #[true, true, true, true, true, true, true, true, true, true, true, true, true, false, false, false, false, false, false, false, false, false, false, false, false, false] rfl rfl (any_of HT_.out (by kernel_rfl)) (fun _ _ _ h => h) (Or.inr ⟨by rfl, rfl⟩) ?_ ?_
                rotate_left
                · simp only [Act.put, List.setIfInBounds_toArray, List.set_cons_zero, List.set_cons_succ, i64_w, i32_w]
                  rfl
                refine pure_ (i := 13) (N := some 52) (v := ?_) (a' := ?_) #[true, true, true, true, true, true, true, true, true, true, true, true, true, true, false, false, false, false, false, false, false, false, false, false, false, false] rfl rfl (any_of HT_.out (by kernel_rfl)) (fun _ _ _ h => h) (Or.inl ⟨by rfl, ?_⟩) ?_ ?_
                rotate_left
                · intro w'
                  go_simp
                  with_reducible rfl
                rotate_left
                · simp only [Act.put, List.setIfInBounds_toArray, List.set_cons_zero, List.set_cons_succ, i64_w, i32_w]
                  rfl
                refine pure_ (i := 14) (N := some 53) (v := ?_) (a' := ?_) #[true, true, true, true, true, true, true, true, true, true, true, true, true, true, true, false, false, false, false, false, false, false, false, false, false, false] rfl rfl (any_of HT_.out (by kernel_rfl)) (fun _ _ _ h => h) (Or.inl ⟨by rfl, ?_⟩) ?_ ?_
                rotate_left
                · intro w'
                  go_simp
                  with_reducible rfl
                rotate_left
                · simp only [Act.put, List.setIfInBounds_toArray, List.set_cons_zero, List.set_cons_succ, i64_w, i32_w]
                  rfl
                refine pure_ (i := 15) (N := some 54) (v := undef) (a' := ?_) #[true, true, true, true, true, true, true, true, true, true, true, true, true, true, true, true, false, false, false, false, false, false, false, false, false, false] rfl rfl (any_of HT_.out (by kernel_rfl)) (fun _ _ _ h => h) (Or.inr ⟨by rfl, rfl⟩) ?_ ?_
                rotate_left
                · simp only [Act.put, List.setIfInBounds_toArray, List.set_cons_zero, List.set_cons_succ, i64_w, i32_w]
                  rfl
                refine pure_ (i := 16) (N := some 55) (v := undef) (a' := ?_) #[true, true, true, true, true, true, true, true, true, true, true, true, true, true, true, true, true, false, false, false, false, false, false, false, false, false] rfl rfl (any_of HT_.out (by kernel_rfl)) (fun _ _ _ h => h) (Or.inr ⟨by rfl, rfl⟩) ?_ ?_
                rotate_left
                · simp only [Act.put, List.setIfInBounds_toArray, List.set_cons_zero, List.set_cons_succ, i64_w, i32_w]
                  rfl
                refine pure_ (i := 17) (N := some 56) (v := undef) (a' := ?_) #[true, true, true, true, true, true, true, true, true, true, true, true, true, true, true, true, true, true, false, false, false, false, false, false, false, false] rfl rfl (any_of HT_.out (by kernel_rfl)) (fun _ _ _ h => h) (Or.inr ⟨by rfl, rfl⟩) ?_ ?_
                rotate_left
                · simp only [Act.put, List.setIfInBounds_toArray, List.set_cons_zero, List.set_cons_succ, i64_w, i32_w]
                  rfl
                refine pure_ (i := 18) (N := some 57) (v := undef) (a' := ?_) #[true, true, true, true, true, true, true, true, true, true, true, true, true, true, true, true, true, true, true, false, false, false, false, false, false, false] rfl rfl (any_of HT_.out (by kernel_rfl)) (fun _ _ _ h => h) (Or.inr ⟨by rfl, rfl⟩) ?_ ?_
                rotate_left
                · simp only [Act.put, List.setIfInBounds_toArray, List.set_cons_zero, List.set_cons_succ, i64_w, i32_w]
                  rfl
                refine pure_ (i := 19) (N := some 58) (v := undef) (a' := ?_) #[true, true, true, true, true, true, true, true, true, true, true, true, true, true, true, true, true, true, true, true, false, false, false, false, false, false] rfl rfl (any_of HT_.out (by kernel_rfl)) (fun _ _ _ h => h) (Or.inr ⟨by rfl, rfl⟩) ?_ ?_
                rotate_left
                · simp only [Act.put, List.setIfInBounds_toArray, List.set_cons_zero, List.set_cons_succ, i64_w, i32_w]
                  rfl
                refine pure_ (i := 20) (N := some 59) (v := undef) (a' := ?_) #[true, true, true, true, true, true, true, true, true, true, true, true, true, true, true, true, true, true, true, true, true, false, false, false, false, false] rfl rfl (any_of HT_.out (by kernel_rfl)) (fun _ _ _ h => h) (Or.inr ⟨by rfl, rfl⟩) ?_ ?_
                rotate_left
                · simp only [Act.put, List.setIfInBounds_toArray, List.set_cons_zero, List.set_cons_succ, i64_w, i32_w]
                  rfl
                refine pure_ (i := 21) (N := some 60) (v := ?_) (a' := ?_) #[true, true, true, true, true, true, true, true, true, true, true, true, true, true, true, true, true, true, true, true, true, true, false, false, false, false] rfl rfl (any_of HT_.out (by kernel_rfl)) (fun _ _ _ h => h) (Or.inl ⟨by rfl, ?_⟩) ?_ ?_
                rotate_left
                · intro w'
                  go_simp
                  with_reducible rfl
                rotate_left
                · simp only [Act.put, List.setIfInBounds_toArray, List.set_cons_zero, List.set_cons_succ, i64_w, i32_w]
                  rfl
                refine pure_ (i := 22) (N := some 61) (v := ?_) (a' := ?_) #[true, true, true, true, true, true, true, true, true, true, true, true, true, true, true, true, true, true, true, true, true, true, true, false, false, false] rfl rfl (any_of HT_.out (by kernel_rfl)) (fun _ _ _ h => h) (Or.inl ⟨by rfl, ?_⟩) ?_ ?_
                rotate_left
                · intro w'
                  go_simp
                  with_reducible rfl
                rotate_left
                · simp only [Act.put, List.setIfInBounds_toArray, List.set_cons_zero, List.set_cons_succ, i64_w, i32_w]
                  rfl
                refine pure_ (i := 23) (N := some 62) (v := undef) (a' := ?_) #[true, true, true, true, true, true, true, true, true, true, true, true, true, true, true, true, true, true, true, true, true, true, true, true, false, false] rfl rfl (any_of HT_.out (by kernel_rfl)) (fun _ _ _ h => h) (Or.inr ⟨by rfl, rfl⟩) ?_ ?_
                rotate_left
                · simp only [Act.put, List.setIfInBounds_toArray, List.set_cons_zero, List.set_cons_succ, i64_w, i32_w]
                  rfl
                refine pure_ (i := 24) (N := some 63) (v := ?_) (a' := ?_) #[true, true, true, true, true, true, true, true, true, true, true, true, true, true, true, true, true, true, true, true, true, true, true, true, true, false] rfl rfl (any_of HT_.out (by kernel_rfl)) (fun _ _ _ h => h) (Or.inl ⟨by rfl, ?_⟩) ?_ ?_
                rotate_left
                · intro w'
                  go_simp
                  with_reducible rfl
                rotate_left
                · simp only [Act.put, List.setIfInBounds_toArray, List.set_cons_zero, List.set_cons_succ, i64_w, i32_w]
                  rfl
                refine pure_ (i := 25) (N := some 4) (v := ?_) (a' := ?_) #[true, true, true, true, true, true, true, true, true, true, true, true, true, true, true, true, true, true, true, true, true, true, true, true, true, true] rfl rfl (any_of HT_.out (by kernel_rfl)) (fun _ _ _ h => h) (Or.inl ⟨by rfl, ?_⟩) ?_ ?_
                rotate_left
                · intro w'
                  go_simp
                  with_reducible rfl
                rotate_left
                · simp only [Act.put, List.setIfInBounds_toArray, List.set_cons_zero, List.set_cons_succ, i64_w, i32_w]
                  rfl
                refine done_ (done_of HT_.out (by kernel_rfl)) ?_
                try go_wp2
                go_ret
                exact ⟨by first | rfl | (simp [errW_none, errW_some] <;> rfl) | (simp [*, errW_none, errW_some] <;> rfl), by repeat (first | (with_reducible first | exact HB.out | apply below_alloc | apply pw_below_drewN | apply below_drew1 | refine below_set ?_ GE111.out | refine below_set ?_ GE125.out) | exact HB.out)⟩
            · replace c29 := Bool.eq_false_iff.mpr c29
              subst c29
              have H1 : (some false) = some r := by rw [if_neg (show ¬ (false = true) by decide)] at H; exact H
              clear H
              have H := H1
              clear H1
              obtain rfl := Option.some.inj H
              try go_wp2
              have n0_ := Aside0.mk (Kd.R_drew HO_7.out)
              have n1_ := Aside0.mk (blk_drew BK111.out)
              have n2_ := Aside0.mk (blk_drew BK125.out)
              have n3_ := Aside0.mk (below_drew1 HB.out)
              clear HO_7
              clear BK111
              clear BK125
              clear HB
              have HO_7 := n0_
              have BK111 := n1_
              have BK125 := n2_
              have HB := n3_
              clear n0_ n1_ n2_ n3_
              refine start_ (n := 26) (S := fun w' => True) (ds := []) #[false, false, false, false, false, false, false, false, false, false, false, false, false, false, false, false, false, false, false, false, false, false, false, false, false, false] (by kernel_rfl) rfl rfl trivial (fun hHeld => ?_); refine with_tabW laws_FnPacketDataRead.tab8 laws_FnPacketDataRead.bits8 (fun HT_ HW_ => ?_)
              generalize wc.drew = w54 at HO_7 BK111 BK125 HB hHeld ⊢
              refine pure_ (i := 0) (N := some 39) (v := ?_) (a' := ?_) #[true, false, false, false, false, false, false, false, false, false, false, false, false, false, false, false, false, false, false, false, false, false, false, false, false, false] rfl rfl (any_of HT_.out (by kernel_rfl)) (fun _ _ _ h => h) (Or.inl ⟨by rfl, ?_⟩) ?_ ?_
              rotate_left
              · intro w'
                go_simp
                with_reducible rfl
              rotate_left
              · simp only [Act.put, List.setIfInBounds_toArray, List.set_cons_zero, List.set_cons_succ, i64_w, i32_w]
                rfl
              refine pure_ (i := 1) (N := some 40) (v := ?_) (a' := ?_) #[true, true, false, false, false, false, false, false, false, false, false, false, false, false, false, false, false, false, false, false, false, false, false, false, false, false] rfl rfl (any_of HT_.out (by kernel_rfl)) (fun _ _ _ h => h) (Or.inl ⟨by rfl, ?_⟩) ?_ ?_
              rotate_left
              · intro w'
                go_simp
                with_reducible rfl
              rotate_left
              · simp only [Act.put, List.setIfInBounds_toArray, List.set_cons_zero, List.set_cons_succ, i64_w, i32_w]
                rfl
              refine pure_ (i := 2) (N := some 41) (v := undef) (a' := ?_) #[true, true, true, false, false, false, false, false, false, false, false, false, false, false, false, false, false, false, false, false, false, false, false, false, false, false] rfl rfl (any_of HT_.out (by kernel_rfl)) (fun _ _ _ h => h) (Or.inr ⟨by rfl, rfl⟩) ?_ ?_
              rotate_left
              · simp only [Act.put, List.setIfInBounds_toArray, List.set_cons_zero, List.set_cons_succ, i64_w, i32_w]
                rfl
              refine pure_ (i := 3) (N := some 42) (v := undef) (a' := ?_) #[true, true, true, true, false, false, false, false, false, false, false, false, false, false, false, false, false, false, false, false, false, false, false, false, false, false] rfl rfl (any_of HT_.out (by kernel_rfl)) (fun _ _ _ h => h) (Or.inr ⟨by rfl, rfl⟩) ?_ ?_
              rotate_left
              · simp only [Act.put, List.setIfInBounds_toArray, List.set_cons_zero, List.set_cons_succ, i64_w, i32_w]
                rfl
              refine pure_ (i := 4) (N := some 43) (v := undef) (a' := ?_) #[true, true, true, true, true, false, false, false, false, false, false, false, false, false, false, false, false, false, false, false, false, false, false, false, false, false] rfl rfl (any_of HT_.out (by kernel_rfl)) (fun _ _ _ h => h) (Or.inr ⟨by rfl, rfl⟩) ?_ ?_
              rotate_left
              · simp only [Act.put, List.setIfInBounds_toArray, List.set_cons_zero, List.set_cons_succ, i64_w, i32_w]
                rfl
              refine pure_ (i := 5) (N := some 44) (v := undef) (a' := ?_) #[true, true, true, true, true, true, false, false, false, false, false, false, false, false, false, false, false, false, false, false, false, false, false, false, false, false] rfl rfl (any_of HT_.out (by kernel_rfl)) (fun _ _ _ h => h) (Or.inr ⟨by rfl, rfl⟩) ?_ ?_
              rotate_left
              · simp only [Act.put, List.setIfInBounds_toArray, List.set_cons_zero, List.set_cons_succ, i64_w, i32_w]
                rfl
              refine pure_ (i := 6) (N := some 45) (v := undef) (a' := ?_) #[true, true, true, true, true, true, true, false, false, false, false, false, false, false, false, false, false, false, false, false, false, false, false, false, false, false] rfl rfl (any_of HT_.out (by kernel_rfl)) (fun _ _ _ h => h) (Or.inr ⟨by rfl, rfl⟩) ?_ ?_
              rotate_left
              · simp only [Act.put, List.setIfInBounds_toArray, List.set_cons_zero, List.set_cons_succ, i64_w, i32_w]
                rfl
              refine pure_ (i := 7) (N := some 46) (v := ?_) (a' := ?_) #[true, true, true, true, true, true, true, true, false, false, false, false, false, false, false, false, false, false, false, false, false, false, false, false, false, false] rfl rfl (any_of HT_.out (by kernel_rfl)) (fun _ _ _ h => h) (Or.inl ⟨by rfl, ?_⟩) ?_ ?_
              rotate_left
              · intro w'
                go_simp
                with_reducible rfl
              rotate_left
              · simp only [Act.put, List.setIfInBounds_toArray, List.set_cons_zero, List.set_cons_succ, i64_w, i32_w]
                rfl
              refine pure_ (i := 8) (N := some 47) (v := ?_) (a' := ?_) #[true, true, true, true, true, true, true, true, true, false, false, false, false, false, false, false, false, false, false, false, false, false, false, false, false, false] rfl rfl (any_of HT_.out (by kernel_rfl)) (fun _ _ _ h => h) (Or.inl ⟨by rfl, ?_⟩) ?_ ?_
              rotate_left
              · intro w'
                go_simp
                with_reducible rfl
              rotate_left
              · simp only [Act.put, List.setIfInBounds_toArray, List.set_cons_zero, List.set_cons_succ, i64_w, i32_w]
                rfl
              refine pure_ (i := 9) (N := some 48) (v := undef) (a' := ?_) #[true, true, true, true, true, true, true, true, true, true, false, false, false, false, false, false, false, false, false, false, false, false, false, false, false, false] rfl rfl (any_of HT_.out (by kernel_rfl)) (fun _ _ _ h => h) (Or.inr ⟨by rfl, rfl⟩) ?_ ?_
              rotate_left
              · simp only [Act.put, List.setIfInBounds_toArray, List.set_cons_zero, List.set_cons_succ, i64_w, i32_w]
                rfl
              refine pure_ (i := 10) (N := some 49) (v := undef) (a' := ?_) #[true, true, true, true, true, true, true, true, true, true, true, false, false, false, false, false, false, false, false, false, false, false, false, false, false, false] rfl rfl (any_of HT_.out (by kernel_rfl)) (fun _ _ _ h => h) (Or.inr ⟨by rfl, rfl⟩) ?_ ?_
              rotate_left
              · simp only [Act.put, List.setIfInBounds_toArray, List.set_cons_zero, List.set_cons_succ, i64_w, i32_w]
                rfl
              refine pure_ (i := 11) (N := some 50) (v := undef) (a' := ?_) #[true, true, true, true, true, true, true, true, true, true, true, true, false, false, false, false, false, false, false, false, false, false, false, false, false, false] rfl rfl (any_of HT_.out (by kernel_rfl)) (fun _ _ _ h => h) (Or.inr ⟨by rfl, rfl⟩) ?_ ?_
              rotate_left
              · simp only [Act.put, List.setIfInBounds_toArray, List.set_cons_zero, List.set_cons_succ, i64_w, i32_w]
                rfl
              refine pure_ (i := 12) (N := some 51) (v := undef) (a' := ?_) #[true, true, true, true, true, true, true, true, true, true, true, true, true, false, false, false, false, false, false, false, false, false, false, false, false, false] rfl rfl (any_of HT_.out (by kernel_rfl)) (fun _ _ _ h => h) (Or.inr ⟨by rfl, rfl⟩) ?_ ?_
              rotate_left
              · simp only [Act.put, List.setIfInBounds_toArray, List.set_cons_zero, List.set_cons_succ, i64_w, i32_w]
                rfl
              refine pure_ (i := 13) (N := some 52) (v := ?_) (a' := ?_) #[true, true, true, true, true, true, true, true, true, true, true, true, true, true, false, false, false, false, false, false, false, false, false, false, false, false] rfl rfl (any_of HT_.out (by kernel_rfl)) (fun _ _ _ h => h) (Or.inl ⟨by rfl, ?_⟩) ?_ ?_
              rotate_left
              · intro w'
                go_simp
                with_reducible rfl
              rotate_left
              · simp only [Act.put, List.setIfInBounds_toArray, List.set_cons_zero, List.set_cons_succ, i64_w, i32_w]
                rfl
              refine pure_ (i := 14) (N := some 53) (v := ?_) (a' := ?_) #[true, true, true, true, true, true, true, true, true, true, true, true, true, true, true, false, false, false, false, false, false, false, false, false, false, false] rfl rfl (any_of HT_.out (by kernel_rfl)) (fun _ _ _ h => h) (Or.inl ⟨by rfl, ?_⟩) ?_ ?_
              rotate_left
              · intro w'
                go_simp
                with_reducible rfl
              rotate_left
              · simp only [Act.put, List.setIfInBounds_toArray, List.set_cons_zero, List.set_cons_succ, i64_w, i32_w]
                rfl
              refine pure_ (i := 15) (N := some 54) (v := undef) (a' := ?_) #[true, true, true, true, true, true, true, true, true, true, true, true, true, true, true, true, false, false, false, false, false, false, false, false, false, false] rfl rfl (any_of HT_.out (by kernel_rfl)) (fun _ _ _ h => h) (Or.inr ⟨by rfl, rfl⟩) ?_ ?_
              rotate_left
              · simp only [Act.put, List.setIfInBounds_toArray, List.set_cons_zero, List.set_cons_succ, i64_w, i32_w]
                rfl
              refine pure_ (i := 16) (N := some 55) (v := undef) (a' := ?_) #[true, true, true, true, true, true, true, true, true, true, true, true, true, true, true, true, true, false, false, false, false, false, false, false, false, false] rfl rfl (any_of HT_.out (by kernel_rfl)) (fun _ _ _ h => h) (Or.inr ⟨by rfl, rfl⟩) ?_ ?_
              rotate_left
              · simp only [Act.put, List.setIfInBounds_toArray, List.set_cons_zero, List.set_cons_succ, i64_w, i32_w]
                rfl
              refine pure_ (i := 17) (N := some 56) (v := undef) (a' := ?_) #[true, true, true, true, true, true, true, true, true, true, true, true, true, true, true, true, true, true, false, false, false, false, false, false, false, false] rfl rfl (any_of HT_.out (by kernel_rfl)) (fun _ _ _ h => h) (Or.inr ⟨by rfl, rfl⟩) ?_ ?_
              rotate_left
              · simp only [Act.put, List.setIfInBounds_toArray, List.set_cons_zero, List.set_cons_succ, i64_w, i32_w]
                rfl
              refine pure_ (i := 18) (N := some 57) (v := undef) (a' := ?_) #[true, true, true, true, true, true, true, true, true, true, true, true, true, true, true, true, true, true, true, false, false, false, false, false, false, false] rfl rfl (any_of HT_.out (by kernel_rfl)) (fun _ _ _ h => h) (Or.inr ⟨by rfl, rfl⟩) ?_ ?_
              rotate_left
              · simp only [Act.put, List.setIfInBounds_toArray, List.set_cons_zero, List.set_cons_succ, i64_w, i32_w]
                rfl
              refine pure_ (i := 19) (N := some 58) (v := undef) (a' := ?_) #[true, true, true, true, true, true, true, true, true, true, true, true, true, true, true, true, true, true, true, true, false, false, false, false, false, false] rfl rfl (any_of HT_.out (by kernel_rfl)) (fun _ _ _ h => h) (Or.inr ⟨by rfl, rfl⟩) ?_ ?_
              rotate_left
              · simp only [Act.put, List.setIfInBounds_toArray, List.set_cons_zero, List.set_cons_succ, i64_w, i32_w]
                rfl
              refine pure_ (i := 20) (N := some 59) (v := undef) (a' := ?_) #[true, true, true, true, true, true, true, true, true, true, true, true, true, true, true, true, true, true, true, true, true, false, false, false, false, false] rfl rfl (any_of HT_.out (by kernel_rfl)) (fun _ _ _ h => h) (Or.inr ⟨by rfl, rfl⟩) ?_ ?_
              rotate_left
              · simp only [Act.put, List.setIfInBounds_toArray, List.set_cons_zero, List.set_cons_succ, i64_w, i32_w]
                rfl
              refine pure_ (i := 21) (N := some 60) (v := ?_) (a' := ?_) #[true, true, true, true, true, true, true, true, true, true, true, true, true, true, true, true, true, true, true, true, true, true, false, false, false, false] rfl rfl (any_of HT_.out (by kernel_rfl)) (fun _ _ _ h => h) (Or.inl ⟨by rfl, ?_⟩) ?_ ?_
              rotate_left
              · intro w'
                go_simp
                with_reducible rfl
              rotate_left
              · simp only [Act.put, List.setIfInBounds_toArray, List.set_cons_zero, List.set_cons_succ, i64_w, i32_w]
                rfl
              refine pure_ (i := 22) (N := some 61) (v := ?_) (a' := ?_) #[true, true, true, true, true, true, true, true, true, true, true, true, true, true, true, true, true, true, true, true, true, true, true, false, false, false] rfl rfl (any_of HT_.out (by kernel_rfl)) (fun _ _ _ h => h) (Or.inl ⟨by rfl, ?_⟩) ?_ ?_
              rotate_left
              · intro w'
                go_simp
                with_reducible rfl
              rotate_left
              · simp only [Act.put, List.setIfInBounds_toArray, List.set_cons_zero, List.set_cons_succ, i64_w, i32_w]
                rfl
              refine pure_ (i := 23) (N := some 62) (v := undef) (a' := ?_) #[true, true, true, true, true, true, true, true, true, true, true, true, true, true, true, true, true, true, true, true, true, true, true, true, false, false] rfl rfl (any_of HT_.out (by kernel_rfl)) (fun _ _ _ h => h) (Or.inr ⟨by rfl, rfl⟩) ?_ ?_
              rotate_left
              · simp only [Act.put, List.setIfInBounds_toArray, List.set_cons_zero, List.set_cons_succ, i64_w, i32_w]
                rfl
              refine pure_ (i := 24) (N := some 63) (v := ?_) (a' := ?_) #[true, true, true, true, true, true, true, true, true, true, true, true, true, true, true, true, true, true, true, true, true, true, true, true, true, false] rfl rfl (any_of HT_.out (by kernel_rfl)) (fun _ _ _ h => h) (Or.inl ⟨by rfl, ?_⟩) ?_ ?_
              rotate_left
              · intro w'
                go_simp
                with_reducible rfl
              rotate_left
              · simp only [Act.put, List.setIfInBounds_toArray, List.set_cons_zero, List.set_cons_succ, i64_w, i32_w]
                rfl
              refine pure_ (i := 25) (N := some 4) (v := ?_) (a' := ?_) #[true, true, true, true, true, true, true, true, true, true, true, true, true, true, true, true, true, true, true, true, true, true, true, true, true, true] rfl rfl (any_of HT_.out (by kernel_rfl)) (fun _ _ _ h => h) (Or.inl ⟨by rfl, ?_⟩) ?_ ?_
              rotate_left
              · intro w'
                go_simp
                with_reducible rfl
              rotate_left
              · simp only [Act.put, List.setIfInBounds_toArray, List.set_cons_zero, List.set_cons_succ, i64_w, i32_w]
                rfl
              refine done_ (done_of HT_.out (by kernel_rfl)) ?_
              try go_wp2
              go_ret
              exact ⟨by first | rfl | (simp [errW_none, errW_some] <;> rfl) | (simp [*, errW_none, errW_some] <;> rfl), by repeat (first | (with_reducible first | exact HB.out | apply below_alloc | apply pw_below_drewN | apply below_drew1 | refine below_set ?_ GE111.out | refine below_set ?_ GE125.out) | exact HB.out)⟩

end Go.Proofs.YtpacjdlgnoiheaaDoor.ZD
