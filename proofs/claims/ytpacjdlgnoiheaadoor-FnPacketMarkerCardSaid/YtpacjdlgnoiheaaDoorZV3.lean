-- Written by a program of this session (wip/xprint.py), which calls the kit's print.
import Derived.Test.YtpacjdlgnoiheaaDoorZV0
import Derived.Test.YtpacjdlgnoiheaaDoorZV1
import Derived.Test.YtpacjdlgnoiheaaDoorZV2
import Derived.Test.YtpacjdlgnoiheaaDoorPv
import Derived.Test.YtpacjdlgnoiheaaDoorPn
import Derived.Test.YtpacjdlgnoiheaaDoorPw
import Derived.Test.YtpacjdlgnoiheaaDoorPs
namespace Go.Proofs.YtpacjdlgnoiheaaDoor.ZV
open Go.RowKit Go.Proofs.YtpacjdlgnoiheaaDoor.X Go.Proofs.YtpacjdlgnoiheaaDoorW.PrintWords Go.Proofs.YtpacjdlgnoiheaaDoorW.PrintLast Go.Proofs.YtpacjdlgnoiheaaDoorW.PrintMore
attribute [local go_sem] max2_int min2_int max_two min_two max_three min_three max_four min_four   -- for this text's walks alone
set_option linter.unusedVariables false
set_option linter.unusedSimpArgs false

attribute [local go_sem high] eqA28
/-! ### laws_FnPacketMarker: function 7 -/
def laws_FnPacketMarker.f (k : Nat) (a0_0 : Int) (a0_1 : Int) (a0_2 : Int) (a0_3 : Int) (a0_4 : Int) (a0_5 : Int) (a0_6 : Int) (a0_7 : Int) (a0_8 : Int) (a0_9 : Bool) (a1 : Int) : Option (Bool) := (impl_MarkerBytes.f a0_0 a0_1 a0_2 a0_3 a0_4 a0_5 a0_6 a0_7 a0_8 a0_9 a1).bind fun t112 => ((bytes_Clone.f t112).bind fun t115 => ((impl_MarkerRead.f a0_0 a0_1 a0_2 a0_3 a0_4 a0_5 a0_6 a0_7 a0_8 a0_9 t115).bind fun bt118 => ((spec_PacketMarker.f a0_0 a0_1 a0_2 a0_3 a0_4 a0_5 a0_6 a0_7 a0_8 a0_9 a1).bind fun t125 => ((bytes_Equal.f t112 t125).bind fun t128 => (if t128 = true then (if bt118.2.2.2.2.2 = true then (if bt118.2.2.2.2.1 = a1 then ((spec_PacketLong.f a0_0 a0_1 a0_2 a0_3 a0_4 a0_5 a0_6 a0_7 a0_8 a0_9).bind fun t129 => ((spec_PacketHeadOf.f k t129 t112 0).bind fun bt130 => (if (bt118.1 == bt130.1 && (bt118.2.1 == bt130.2.1 && (bt118.2.2.1 == bt130.2.2.1 && (bt118.2.2.2.1 == bt130.2.2.2)))) = true then ((laws_packetAwake.f).bind fun t134 => (some t134)) else (none)))) else (none)) else (none)) else (none))))))
theorem laws_FnPacketMarker.mono : ∀ a0 a1 a2 a3 a4 a5 a6 a7 a8 a9 a10 k, LeO (laws_FnPacketMarker.f k a0 a1 a2 a3 a4 a5 a6 a7 a8 a9 a10) (laws_FnPacketMarker.f (k + 1) a0 a1 a2 a3 a4 a5 a6 a7 a8 a9 a10) := by
  intro a0 a1 a2 a3 a4 a5 a6 a7 a8 a9 a10 k
  unfold laws_FnPacketMarker.f
  repeat' first
      | (with_reducible exact spec_PacketHeadOf.mono _ _ _ _)
      | (with_reducible exact LeO.refl _)
      | (with_reducible exact LeO.none _)
      | (with_reducible refine LeO.ite ?_ ?_)
      | (with_reducible refine LeO.bind ?_ (fun _ => ?_))
      | exact spec_PacketHeadOf.mono _ _ _ _
      | exact LeO.none _
      | refine LeO.ite ?_ ?_
      | refine LeO.bind ?_ (fun _ => ?_)
def laws_FnPacketMarker.T2 : Bool × List (List Nat × List Nat) := (true, [([], []), ([], []), ([1], [1]), ([0, 2, 2], [0, 2]), ([3], [3]), ([4], [4]), ([4], [4]), ([4], [4]), ([], []), ([8, 5, 3, 0, 1, 2, 3, 4, 5, 8], [5, 8]), ([6, 9, 0, 1, 2, 3, 4, 5, 6, 8, 9], [6]), ([7, 10, 0, 1, 2, 3, 4, 5, 6, 7, 8, 9, 10], [7])])
def laws_FnPacketMarker.B2 : List Nat := [0, 0, 2, 7, 15, 31, 31, 31, 0, 319, 895, 2047]
theorem laws_FnPacketMarker.tab2 : rtab .any (opsOf Tryd.f7 2) = laws_FnPacketMarker.T2 := by kernel_rfl
theorem laws_FnPacketMarker.bits2 : waitsOk laws_FnPacketMarker.T2.2 laws_FnPacketMarker.B2 = true := by kernel_rfl
def laws_FnPacketMarker.T3 : Bool × List (List Nat × List Nat) := (true, [([], []), ([], []), ([], []), ([1, 2], [1, 2]), ([0, 3, 3], [0, 3]), ([4, 4], [4]), ([5], [5]), ([5, 6], [5, 6]), ([7, 5], [7]), ([8], [8]), ([8], [8]), ([9, 10, 8], [8, 9, 10]), ([8, 11], [8, 11]), ([12, 8], [12]), ([13], [13]), ([13], [13]), ([15, 13, 13], [13, 15]), ([13], [13]), ([16, 17, 16, 13], [13, 16, 17]), ([14, 18, 13], [13, 14, 18]), ([13, 19], [13, 19]), ([20, 18], [20]), ([21, 21], [21]), ([21, 22], [21, 22]), ([23, 22, 0, 1, 2, 3, 4, 5, 6, 7, 8, 9, 10, 11, 12, 13, 14, 15, 16, 17, 18, 19, 20, 21, 22, 23], [23])])
def laws_FnPacketMarker.B3 : List Nat := [0, 0, 0, 6, 15, 31, 63, 127, 255, 511, 511, 2047, 4095, 8191, 16383, 16383, 49151, 16383, 245759, 524287, 1048575, 2097151, 4194303, 8388607, 16777215]
theorem laws_FnPacketMarker.tab3 : rtab .any (opsOf Tryd.f7 3) = laws_FnPacketMarker.T3 := by kernel_rfl
theorem laws_FnPacketMarker.bits3 : waitsOk laws_FnPacketMarker.T3.2 laws_FnPacketMarker.B3 = true := by kernel_rfl
set_option maxHeartbeats 8000000 in
set_option maxRecDepth 100000 in
theorem laws_FnPacketMarker.calls (k : Nat) (a0_0 : Int) (a0_1 : Int) (a0_2 : Int) (a0_3 : Int) (a0_4 : Int) (a0_5 : Int) (a0_6 : Int) (a0_7 : Int) (a0_8 : Int) (a0_9 : Bool) (a1 : Int) (r : Bool) (w : World) (h : laws_FnPacketMarker.f k a0_0 a0_1 a0_2 a0_3 a0_4 a0_5 a0_6 a0_7 a0_8 a0_9 a1 = some r) :
    Calls Tryd.prog 7 #[.agg #[.int .u16 a0_0, .int .u16 a0_1, .int .u16 a0_2, .int .u16 a0_3, .int .u16 a0_4, .int .u8 a0_5, .int .u8 a0_6, .int .u32 a0_7, .int .u32 a0_8, .bool a0_9], .int .u8 a1] w fun e w' => e = .returned (.bool r) ∧ Below w.heap.size w w' := by
  have hu34 := Tryd.underlying34
  have hu28 := Tryd.underlying28
  have HB := Aside0.mk (Below.refl w.heap.size w)
  have H : ((impl_MarkerBytes.f a0_0 a0_1 a0_2 a0_3 a0_4 a0_5 a0_6 a0_7 a0_8 a0_9 a1).bind fun t112 => ((bytes_Clone.f t112).bind fun t115 => ((impl_MarkerRead.f a0_0 a0_1 a0_2 a0_3 a0_4 a0_5 a0_6 a0_7 a0_8 a0_9 t115).bind fun bt118 => ((spec_PacketMarker.f a0_0 a0_1 a0_2 a0_3 a0_4 a0_5 a0_6 a0_7 a0_8 a0_9 a1).bind fun t125 => ((bytes_Equal.f t112 t125).bind fun t128 => (if t128 = true then (if bt118.2.2.2.2.2 = true then (if bt118.2.2.2.2.1 = a1 then ((spec_PacketLong.f a0_0 a0_1 a0_2 a0_3 a0_4 a0_5 a0_6 a0_7 a0_8 a0_9).bind fun t129 => ((spec_PacketHeadOf.f k t129 t112 0).bind fun bt130 => (if (bt118.1 == bt130.1 && (bt118.2.1 == bt130.2.1 && (bt118.2.2.1 == bt130.2.2.1 && (bt118.2.2.2.1 == bt130.2.2.2)))) = true then ((laws_packetAwake.f).bind fun t134 => (some t134)) else (none)))) else (none)) else (none)) else (none))))))) = some r := h
  clear h
  replace H := Option.bind_eq_some_iff.mp H
  obtain ⟨t112, A30, H⟩ := H
  replace H : ((bytes_Clone.f t112).bind fun t115 => ((impl_MarkerRead.f a0_0 a0_1 a0_2 a0_3 a0_4 a0_5 a0_6 a0_7 a0_8 a0_9 t115).bind fun bt118 => ((spec_PacketMarker.f a0_0 a0_1 a0_2 a0_3 a0_4 a0_5 a0_6 a0_7 a0_8 a0_9 a1).bind fun t125 => ((bytes_Equal.f t112 t125).bind fun t128 => (if t128 = true then (if bt118.2.2.2.2.2 = true then (if bt118.2.2.2.2.1 = a1 then ((spec_PacketLong.f a0_0 a0_1 a0_2 a0_3 a0_4 a0_5 a0_6 a0_7 a0_8 a0_9).bind fun t129 => ((spec_PacketHeadOf.f k t129 t112 0).bind fun bt130 => (if (bt118.1 == bt130.1 && (bt118.2.1 == bt130.2.1 && (bt118.2.2.1 == bt130.2.2.1 && (bt118.2.2.2.1 == bt130.2.2.2)))) = true then ((laws_packetAwake.f).bind fun t134 => (some t134)) else (none)))) else (none)) else (none)) else (none)))))) = some r := H
  have A3 := Aside0.mk A30
  clear A30
  replace H := Option.bind_eq_some_iff.mp H
  obtain ⟨t115, A40, H⟩ := H
  replace H : ((impl_MarkerRead.f a0_0 a0_1 a0_2 a0_3 a0_4 a0_5 a0_6 a0_7 a0_8 a0_9 t115).bind fun bt118 => ((spec_PacketMarker.f a0_0 a0_1 a0_2 a0_3 a0_4 a0_5 a0_6 a0_7 a0_8 a0_9 a1).bind fun t125 => ((bytes_Equal.f t112 t125).bind fun t128 => (if t128 = true then (if bt118.2.2.2.2.2 = true then (if bt118.2.2.2.2.1 = a1 then ((spec_PacketLong.f a0_0 a0_1 a0_2 a0_3 a0_4 a0_5 a0_6 a0_7 a0_8 a0_9).bind fun t129 => ((spec_PacketHeadOf.f k t129 t112 0).bind fun bt130 => (if (bt118.1 == bt130.1 && (bt118.2.1 == bt130.2.1 && (bt118.2.2.1 == bt130.2.2.1 && (bt118.2.2.2.1 == bt130.2.2.2)))) = true then ((laws_packetAwake.f).bind fun t134 => (some t134)) else (none)))) else (none)) else (none)) else (none))))) = some r := H
  have A4 := Aside0.mk A40
  clear A40
  replace H := Option.bind_eq_some_iff.mp H
  obtain ⟨⟨t118, t119, t120, t121, t122, t123⟩, A50, H⟩ := H
  replace H : ((spec_PacketMarker.f a0_0 a0_1 a0_2 a0_3 a0_4 a0_5 a0_6 a0_7 a0_8 a0_9 a1).bind fun t125 => ((bytes_Equal.f t112 t125).bind fun t128 => (if t128 = true then (if t123 = true then (if t122 = a1 then ((spec_PacketLong.f a0_0 a0_1 a0_2 a0_3 a0_4 a0_5 a0_6 a0_7 a0_8 a0_9).bind fun t129 => ((spec_PacketHeadOf.f k t129 t112 0).bind fun bt130 => (if (t118 == bt130.1 && (t119 == bt130.2.1 && (t120 == bt130.2.2.1 && (t121 == bt130.2.2.2)))) = true then ((laws_packetAwake.f).bind fun t134 => (some t134)) else (none)))) else (none)) else (none)) else (none)))) = some r := H
  have A5 := Aside0.mk A50
  clear A50
  replace H := Option.bind_eq_some_iff.mp H
  obtain ⟨t125, A60, H⟩ := H
  replace H : ((bytes_Equal.f t112 t125).bind fun t128 => (if t128 = true then (if t123 = true then (if t122 = a1 then ((spec_PacketLong.f a0_0 a0_1 a0_2 a0_3 a0_4 a0_5 a0_6 a0_7 a0_8 a0_9).bind fun t129 => ((spec_PacketHeadOf.f k t129 t112 0).bind fun bt130 => (if (t118 == bt130.1 && (t119 == bt130.2.1 && (t120 == bt130.2.2.1 && (t121 == bt130.2.2.2)))) = true then ((laws_packetAwake.f).bind fun t134 => (some t134)) else (none)))) else (none)) else (none)) else (none))) = some r := H
  have A6 := Aside0.mk A60
  clear A60
  replace H := Option.bind_eq_some_iff.mp H
  obtain ⟨t128, A70, H⟩ := H
  replace H : (if t128 = true then (if t123 = true then (if t122 = a1 then ((spec_PacketLong.f a0_0 a0_1 a0_2 a0_3 a0_4 a0_5 a0_6 a0_7 a0_8 a0_9).bind fun t129 => ((spec_PacketHeadOf.f k t129 t112 0).bind fun bt130 => (if (t118 == bt130.1 && (t119 == bt130.2.1 && (t120 == bt130.2.2.1 && (t121 == bt130.2.2.2)))) = true then ((laws_packetAwake.f).bind fun t134 => (some t134)) else (none)))) else (none)) else (none)) else (none)) = some r := H
  have A7 := Aside0.mk A70
  clear A70
  by_cases c8 : t128 = true
  · subst c8
    have H1 : (if t123 = true then (if t122 = a1 then ((spec_PacketLong.f a0_0 a0_1 a0_2 a0_3 a0_4 a0_5 a0_6 a0_7 a0_8 a0_9).bind fun t129 => ((spec_PacketHeadOf.f k t129 t112 0).bind fun bt130 => (if (t118 == bt130.1 && (t119 == bt130.2.1 && (t120 == bt130.2.2.1 && (t121 == bt130.2.2.2)))) = true then ((laws_packetAwake.f).bind fun t134 => (some t134)) else (none)))) else (none)) else (none)) = some r := by rw [if_pos rfl] at H; exact H
    clear H
    have H := H1
    clear H1
    by_cases c9 : t123 = true
    · subst c9
      have H1 : (if t122 = a1 then ((spec_PacketLong.f a0_0 a0_1 a0_2 a0_3 a0_4 a0_5 a0_6 a0_7 a0_8 a0_9).bind fun t129 => ((spec_PacketHeadOf.f k t129 t112 0).bind fun bt130 => (if (t118 == bt130.1 && (t119 == bt130.2.1 && (t120 == bt130.2.2.1 && (t121 == bt130.2.2.2)))) = true then ((laws_packetAwake.f).bind fun t134 => (some t134)) else (none)))) else (none)) = some r := by rw [if_pos rfl] at H; exact H
      clear H
      have H := H1
      clear H1
      by_cases c10 : t122 = a1
      · rw [if_pos c10] at H
        have c10b0 : (t122 == a1) = true := beq_iff_eq.mpr c10
        have c10b1 : (t122 != a1) = false := bne_eq_false_iff_eq.mpr c10
        clear c10
        replace H := Option.bind_eq_some_iff.mp H
        obtain ⟨t129, A110, H⟩ := H
        replace H : ((spec_PacketHeadOf.f k t129 t112 0).bind fun bt130 => (if (t118 == bt130.1 && (t119 == bt130.2.1 && (t120 == bt130.2.2.1 && (t121 == bt130.2.2.2)))) = true then ((laws_packetAwake.f).bind fun t134 => (some t134)) else (none))) = some r := H
        have A11 := Aside0.mk A110
        clear A110
        replace H := Option.bind_eq_some_iff.mp H
        obtain ⟨⟨t130, t131, t132, t133⟩, A120, H⟩ := H
        replace H : (if (t118 == t130 && (t119 == t131 && (t120 == t132 && (t121 == t133)))) = true then ((laws_packetAwake.f).bind fun t134 => (some t134)) else (none)) = some r := H
        have A12 := Aside0.mk A120
        clear A120
        by_cases c13 : (t118 == t130 && (t119 == t131 && (t120 == t132 && (t121 == t133)))) = true
        · rw [if_pos c13] at H
          have c13b0 : (t118 == t130 && (t119 == t131 && (t120 == t132 && (t121 == t133)))) = true := c13
          (try (have c13b1 : decide (t118 = t130 && (t119 == t131 && (t120 == t132 && (t121 == t133)))) = true := by simpa using c13))
          (try (have c13b2 : (t118 == t130 && (t119 == t131 && (t120 == t132 && (t121 == t133)))) = true := by simpa using c13))
          clear c13
          replace H := Option.bind_eq_some_iff.mp H
          obtain ⟨t134, A140, H⟩ := H
          replace H : (some t134) = some r := H
          have A14 := Aside0.mk A140
          clear A140
          obtain rfl := Option.some.inj H
          go_enter Tryd.func7, Tryd.ntmps7
          try go_wp2_with (first | ((with_reducible refine gate_dst (N := 2) rfl ?_); refine box_event ?hg (N := 2) ?hd (cs := #[.int .u16 a0_0, .int .u16 a0_1, .int .u16 a0_2, .int .u16 a0_3, .int .u16 a0_4, .int .u8 a0_5, .int .u8 a0_6, .int .u32 a0_7, .int .u32 a0_8, .bool a0_9]) (t := 34) ?hr ?_; (case hd => rfl); (case hg => rfl); (case hr => first | (go_simp; done) | (go_simp; rfl)); intro gb111 hg w15 hbox hb; have n0_ := Aside0.mk (below_step (by repeat (first | (with_reducible first | exact HB.out | apply below_alloc | apply pw_below_drewN | apply below_drew1) | exact HB.out)) hb); have n1_ := Aside0.mk (hbox); have n2_ := Aside0.mk ((by rw [hg]; exact (below_size (by repeat (first | (with_reducible first | exact HB.out | apply below_alloc | apply pw_below_drewN | apply below_drew1) | exact HB.out))) : w.heap.size ≤ gb111)); have n3_ := Aside0.mk ((by rw [hg]; exact (below_size (by repeat (first | (with_reducible first | exact HB.out | apply below_alloc | apply pw_below_drewN | apply below_drew1) | exact HB.out))) : w.heap.size ≤ gb111)); clear HB; have HB := n0_; have BK111 := n1_; have GW111 := n2_; have GE111 := n3_; clear n0_ n1_ n2_ n3_; clear hb hbox hg; have hcz16_0 : w15.cell? ⟨gb111, 0, none⟩ = some (.int .u16 a0_0) := (blk_cell BK111.out 0).trans rfl; have hcz16_1 : w15.cell? ⟨gb111, 1, none⟩ = some (.int .u16 a0_1) := (blk_cell BK111.out 1).trans rfl; have hcz16_2 : w15.cell? ⟨gb111, 2, none⟩ = some (.int .u16 a0_2) := (blk_cell BK111.out 2).trans rfl; have hcz16_3 : w15.cell? ⟨gb111, 3, none⟩ = some (.int .u16 a0_3) := (blk_cell BK111.out 3).trans rfl; have hcz16_4 : w15.cell? ⟨gb111, 4, none⟩ = some (.int .u16 a0_4) := (blk_cell BK111.out 4).trans rfl; have hcz16_5 : w15.cell? ⟨gb111, 5, none⟩ = some (.int .u8 a0_5) := (blk_cell BK111.out 5).trans rfl; have hcz16_6 : w15.cell? ⟨gb111, 6, none⟩ = some (.int .u8 a0_6) := (blk_cell BK111.out 6).trans rfl; have hcz16_7 : w15.cell? ⟨gb111, 7, none⟩ = some (.int .u32 a0_7) := (blk_cell BK111.out 7).trans rfl; have hcz16_8 : w15.cell? ⟨gb111, 8, none⟩ = some (.int .u32 a0_8) := (blk_cell BK111.out 8).trans rfl; have hcz16_9 : w15.cell? ⟨gb111, 9, none⟩ = some (.bool a0_9) := (blk_cell BK111.out 9).trans rfl; have hfz16_0 := blk_frozen BK111.out 0; have hfz16_1 := blk_frozen BK111.out 1; have hfz16_2 := blk_frozen BK111.out 2; have hfz16_3 := blk_frozen BK111.out 3; have hfz16_4 := blk_frozen BK111.out 4; have hfz16_5 := blk_frozen BK111.out 5; have hfz16_6 := blk_frozen BK111.out 6; have hfz16_7 := blk_frozen BK111.out 7; have hfz16_8 := blk_frozen BK111.out 8; have hfz16_9 := blk_frozen BK111.out 9) | ((with_reducible refine gate_callee (f := 21) rfl ?_); refine goesL_ (some 11) rfl rfl Tryd.func21 (by kernel_rfl) rfl #[.agg #[.int .u16 a0_0, .int .u16 a0_1, .int .u16 a0_2, .int .u16 a0_3, .int .u16 a0_4, .int .u8 a0_5, .int .u8 a0_6, .int .u32 a0_7, .int .u32 a0_8, .bool a0_9], .int .u8 a1] rfl (by (try simp only [List.map_toArray, List.map_cons, List.map_nil]); first | done | rfl | (simp only [List.length_drop, List.length_take]; rfl)) ?_; (with_reducible refine (impl_MarkerBytes.calls a0_0 a0_1 a0_2 a0_3 a0_4 a0_5 a0_6 a0_7 a0_8 a0_9 a1 t112 _ A3.out).mono ?_); rintro e w17 ⟨v113, rfl, ho0, hb⟩; refine ⟨_, rfl, ?_⟩; have n0_ := Aside0.mk (Kd.R_lower ho0 (below_size (by repeat (first | (with_reducible first | exact HB.out | apply below_alloc | apply pw_below_drewN | apply below_drew1 | refine below_set ?_ GE111.out) | exact HB.out)))); have n1_ := Aside0.mk (blk_below (g := gb111) (o := .cells #[.int .u16 a0_0, .int .u16 a0_1, .int .u16 a0_2, .int .u16 a0_3, .int .u16 a0_4, .int .u8 a0_5, .int .u8 a0_6, .int .u32 a0_7, .int .u32 a0_8, .bool a0_9] 34 (0, 0)) (by (with_reducible repeat (first | refine blk_drewN ?_ _ | refine blk_drew ?_ | refine blk_alloc ?_ _)); exact BK111.out) hb); have n2_ := Aside0.mk (below_step (by repeat (first | (with_reducible first | exact HB.out | apply below_alloc | apply pw_below_drewN | apply below_drew1 | refine below_set ?_ GE111.out) | exact HB.out)) hb); clear BK111; clear HB; have HO114 := n0_; have BK111 := n1_; have HB := n2_; clear n0_ n1_ n2_; (try clear hb); (try clear hb2); (try clear hk); (try clear hi); (try clear ho0); obtain ⟨Ao18, co18, eo18⟩ := Kd.R_slice HO114.out; subst eo18))
          have n0_ := Aside0.mk (Kd.R_drew HO114.out)
          have n1_ := Aside0.mk (blk_drew BK111.out)
          have n2_ := Aside0.mk (below_drew1 HB.out)
          clear HO114
          clear BK111
          clear HB
          have HO114 := n0_
          have BK111 := n1_
          have HB := n2_
          clear n0_ n1_ n2_
          refine start_ (n := 12) (S := fun w' => w'.cell? ⟨gb111, 0, none⟩ = some (.int .u16 a0_0) ∧ w'.cell? ⟨gb111, 1, none⟩ = some (.int .u16 a0_1) ∧ w'.cell? ⟨gb111, 2, none⟩ = some (.int .u16 a0_2) ∧ w'.cell? ⟨gb111, 3, none⟩ = some (.int .u16 a0_3) ∧ w'.cell? ⟨gb111, 4, none⟩ = some (.int .u16 a0_4) ∧ w'.cell? ⟨gb111, 5, none⟩ = some (.int .u8 a0_5) ∧ w'.cell? ⟨gb111, 6, none⟩ = some (.int .u8 a0_6) ∧ w'.cell? ⟨gb111, 7, none⟩ = some (.int .u32 a0_7) ∧ w'.cell? ⟨gb111, 8, none⟩ = some (.int .u32 a0_8) ∧ w'.cell? ⟨gb111, 9, none⟩ = some (.bool a0_9)) (ds := []) #[false, false, false, false, false, false, false, false, false, false, false, false] (by kernel_rfl) rfl rfl ⟨(blk_cell BK111.out 0).trans rfl, (blk_cell BK111.out 1).trans rfl, (blk_cell BK111.out 2).trans rfl, (blk_cell BK111.out 3).trans rfl, (blk_cell BK111.out 4).trans rfl, (blk_cell BK111.out 5).trans rfl, (blk_cell BK111.out 6).trans rfl, (blk_cell BK111.out 7).trans rfl, (blk_cell BK111.out 8).trans rfl, (blk_cell BK111.out 9).trans rfl⟩ (fun hHeld => ?_); refine with_tabW laws_FnPacketMarker.tab2 laws_FnPacketMarker.bits2 (fun HT_ HW_ => ?_)
          generalize w17.drew = w19 at HO114 BK111 HB hHeld ⊢
          refine pure_ (i := 1) (N := some 14) (v := ?_) (a' := ?_) #[false, true, false, false, false, false, false, false, false, false, false, false] rfl rfl (any_of HT_.out (by kernel_rfl)) (fun _ _ _ h => h) (Or.inl ⟨by rfl, ?_⟩) ?_ ?_
          rotate_left
          · intro w'
            go_simp
            with_reducible rfl
          rotate_left
          · simp only [Act.put, List.setIfInBounds_toArray, List.set_cons_zero, List.set_cons_succ, i64_w, i32_w]
            rfl
          refine take_ (i := 0) (N := some 13) (v := ?_) (a' := ?_) #[true, true, false, false, false, false, false, false, false, false, false, false] rfl rfl (take_ofW HT_.out HW_.out (by kernel_rfl)) (fun _ _ _ h => h) (Or.inl ⟨by rfl, ?_⟩) hHeld ?_ ?_
          rotate_left
          · rintro w' ⟨s0, s1, s2, s3, s4, s5, s6, s7, s8, s9⟩
            go_simp
            with_reducible rfl
          rotate_left
          · simp only [Act.put, List.setIfInBounds_toArray, List.set_cons_zero, List.set_cons_succ, i64_w, i32_w]
            rfl
          refine join_ (σ := Value × Nat) 3 #[true, true, true, true, true, true, true, true, true, false, false, false] (fun s_ => [(15, s_.1), (16, .tuple #[.agg #[.int .u32 t118, .int .u8 t119, .int .u8 t120, .int .u16 t121], .int .u8 t122, .bool true]), (6, .pointer (some ⟨s_.2, 0, none⟩)), (12, .tuple #[.agg #[.int .u32 t118, .int .u8 t119, .int .u8 t120, .int .u16 t121], .int .u8 t122, .bool true]), (17, .agg #[.int .u32 t118, .int .u8 t119, .int .u8 t120, .int .u16 t121]), (18, .int .u8 t122), (19, .bool true)]) (fun s_ w' => (w'.cell? ⟨gb111, 0, none⟩ = some (.int .u16 a0_0) ∧ w'.cell? ⟨gb111, 1, none⟩ = some (.int .u16 a0_1) ∧ w'.cell? ⟨gb111, 2, none⟩ = some (.int .u16 a0_2) ∧ w'.cell? ⟨gb111, 3, none⟩ = some (.int .u16 a0_3) ∧ w'.cell? ⟨gb111, 4, none⟩ = some (.int .u16 a0_4) ∧ w'.cell? ⟨gb111, 5, none⟩ = some (.int .u8 a0_5) ∧ w'.cell? ⟨gb111, 6, none⟩ = some (.int .u8 a0_6) ∧ w'.cell? ⟨gb111, 7, none⟩ = some (.int .u32 a0_7) ∧ w'.cell? ⟨gb111, 8, none⟩ = some (.int .u32 a0_8) ∧ w'.cell? ⟨gb111, 9, none⟩ = some (.bool a0_9)) ∧ (Kd.R (Kd.int .u8) 5 w' w.heap.size (fun k_ => some k_ ≠ (s_.1 : Value).ownBlock) (.slice Ao18 t112.length co18) t112) ∧ (Kd.R (Kd.int .u8) 5 w' w.heap.size (fun k_ => some k_ ≠ (.slice Ao18 t112.length co18 : Value).ownBlock) s_.1 t115) ∧ (w'.heap[gb111]? = some (.cells #[.int .u16 a0_0, .int .u16 a0_1, .int .u16 a0_2, .int .u16 a0_3, .int .u16 a0_4, .int .u8 a0_5, .int .u8 a0_6, .int .u32 a0_7, .int .u32 a0_8, .bool a0_9] 34 (0, 0))) ∧ (w'.heap[s_.2]? = some (.cells #[.int .u32 0, .int .u8 0, .int .u8 0, .int .u16 0] 28 (0, 0))) ∧ (w.heap.size ≤ s_.2) ∧ (w.heap.size ≤ s_.2) ∧ (gb111 ≠ s_.2) ∧ (s_.2 ≠ gb111) ∧ (Below w.heap.size w w')) ?_ ?_
          rotate_left
          · intro hCont
            refine two_ (i := 2) (j := 8) (Ni := some 15) (Nj := some 6) #[true, true, true, false, false, false, false, false, false, false, false, false] #[true, true, false, false, false, false, false, false, true, false, false, false] rfl rfl rfl rfl (two_of HT_.out (by kernel_rfl)) (by decide) (by decide) (fun K hK => ?_) (fun K hK => ?_)
            · skip
              refine goes_ Tryd.func12 (by kernel_rfl) rfl #[.slice Ao18 t112.length co18] (by rfl) rfl rfl (by (try simp only [List.map_toArray, List.map_cons, List.map_nil]); first | done | rfl | (simp only [List.length_drop, List.length_take]; rfl)) ?_
              with_reducible refine (bytes_Clone.calls _ _ t112 t115 _ ?side1 ?side2 A4.out).mono ?_
              (case side1 => repeat (first | exact (Kd.R_reads' HO114.out).2.2 | (with_reducible refine Kd.C_alloc ?_ _) | (with_reducible refine Kd.C_drewN ?_ _) | (with_reducible refine Kd.C_drew ?_)))
              (case side2 => exact (Kd.R_reads' HO114.out).2.1)
              rintro e w20 ⟨v116, rfl, ho0, hb⟩
              refine ⟨_, rfl, ?_⟩
              have n0_ := Aside0.mk (Kd.R_elder' (by (with_reducible repeat (first | apply Kd.R_alloc | apply Kd.R_drewN | apply Kd.R_drew)); exact HO114.out) (Kd.R_base ho0) hb)
              have n1_ := Aside0.mk (Kd.R_lower (Kd.R_new' ho0 (Kd.R_lt (by (with_reducible repeat (first | apply Kd.R_alloc | apply Kd.R_drewN | apply Kd.R_drew)); exact HO114.out))) (below_size (by repeat (first | (with_reducible first | exact HB.out | apply below_alloc | apply pw_below_drewN | apply below_drew1 | refine below_set ?_ GE111.out) | exact HB.out))))
              have n2_ := Aside0.mk (blk_below (g := gb111) (o := .cells #[.int .u16 a0_0, .int .u16 a0_1, .int .u16 a0_2, .int .u16 a0_3, .int .u16 a0_4, .int .u8 a0_5, .int .u8 a0_6, .int .u32 a0_7, .int .u32 a0_8, .bool a0_9] 34 (0, 0)) (by (with_reducible repeat (first | refine blk_drewN ?_ _ | refine blk_drew ?_ | refine blk_alloc ?_ _)); exact BK111.out) hb)
              have n3_ := Aside0.mk (below_step (by repeat (first | (with_reducible first | exact HB.out | apply below_alloc | apply pw_below_drewN | apply below_drew1 | refine below_set ?_ GE111.out) | exact HB.out)) hb)
              clear HO114
              clear BK111
              clear HB
              have HO114 := n0_
              have HO117 := n1_
              have BK111 := n2_
              have HB := n3_
              clear n0_ n1_ n2_ n3_
              (try clear hb)
              (try clear hb2)
              (try clear hk)
              (try clear hi)
              (try clear ho0)
              obtain ⟨Ao21, co21, eo21⟩ := Kd.R_slice HO117.out
              (first | subst eo21 | (injection eo21 with f1_ f2_ f3_; have f4_ := f1_.symm; have f5_ := f3_.symm; clear f1_ f2_ f3_; subst f4_; subst f5_))
              refine hK.out _ _ ⟨(blk_cell BK111.out 0).trans rfl, (blk_cell BK111.out 1).trans rfl, (blk_cell BK111.out 2).trans rfl, (blk_cell BK111.out 3).trans rfl, (blk_cell BK111.out 4).trans rfl, (blk_cell BK111.out 5).trans rfl, (blk_cell BK111.out 6).trans rfl, (blk_cell BK111.out 7).trans rfl, (blk_cell BK111.out 8).trans rfl, (blk_cell BK111.out 9).trans rfl⟩ (fun hHeld => ?_)
              clear hK K
              refine norm_ (a' := ?_) ?_ ?_
              rotate_left
              · show Act.put _ (some 15) _ = _
                simp only [Act.put, List.setIfInBounds_toArray, List.set_cons_zero, List.set_cons_succ, i64_w, i32_w]
                rfl
              refine two_ (i := 3) (j := 8) (Ni := some 16) (Nj := some 6) #[true, true, true, true, false, false, false, false, false, false, false, false] #[true, true, true, false, false, false, false, false, true, false, false, false] rfl rfl rfl rfl (two_of HT_.out (by kernel_rfl)) (by decide) (by decide) (fun K hK => ?_) (fun K hK => ?_)
              · skip
                refine goes_ Tryd.func22 (by kernel_rfl) rfl #[.agg #[.int .u16 a0_0, .int .u16 a0_1, .int .u16 a0_2, .int .u16 a0_3, .int .u16 a0_4, .int .u8 a0_5, .int .u8 a0_6, .int .u32 a0_7, .int .u32 a0_8, .bool a0_9], .slice Ao21 t115.length co21] (by rfl) rfl rfl (by (try simp only [List.map_toArray, List.map_cons, List.map_nil]); first | done | rfl | (simp only [List.length_drop, List.length_take]; rfl)) ?_
                with_reducible refine (impl_MarkerRead.calls a0_0 a0_1 a0_2 a0_3 a0_4 a0_5 a0_6 a0_7 a0_8 a0_9 _ _ t115 t118 t119 t120 t121 t122 true _ ?side1 ?side2 A5.out).mono ?_
                (case side1 => repeat (first | exact (Kd.R_reads' HO117.out).2.2 | (with_reducible refine Kd.C_alloc ?_ _) | (with_reducible refine Kd.C_drewN ?_ _) | (with_reducible refine Kd.C_drew ?_)))
                (case side2 => exact (Kd.R_reads' HO117.out).2.1)
                rintro e w22 ⟨rfl, hb⟩
                refine ⟨_, rfl, ?_⟩
                have n0_ := Aside0.mk (Kd.R_below (by (with_reducible repeat (first | apply Kd.R_alloc | apply Kd.R_drewN | apply Kd.R_drew)); exact HO114.out) hb)
                have n1_ := Aside0.mk (Kd.R_below (by (with_reducible repeat (first | apply Kd.R_alloc | apply Kd.R_drewN | apply Kd.R_drew)); exact HO117.out) hb)
                have n2_ := Aside0.mk (blk_below (g := gb111) (o := .cells #[.int .u16 a0_0, .int .u16 a0_1, .int .u16 a0_2, .int .u16 a0_3, .int .u16 a0_4, .int .u8 a0_5, .int .u8 a0_6, .int .u32 a0_7, .int .u32 a0_8, .bool a0_9] 34 (0, 0)) (by (with_reducible repeat (first | refine blk_drewN ?_ _ | refine blk_drew ?_ | refine blk_alloc ?_ _)); exact BK111.out) hb)
                have n3_ := Aside0.mk (below_step (by repeat (first | (with_reducible first | exact HB.out | apply below_alloc | apply pw_below_drewN | apply below_drew1 | refine below_set ?_ GE111.out) | exact HB.out)) hb)
                clear HO114
                clear HO117
                clear BK111
                clear HB
                have HO114 := n0_
                have HO117 := n1_
                have BK111 := n2_
                have HB := n3_
                clear n0_ n1_ n2_ n3_
                (try clear hb)
                (try clear hb2)
                (try clear hk)
                (try clear hi)
                refine hK.out _ _ ⟨(blk_cell BK111.out 0).trans rfl, (blk_cell BK111.out 1).trans rfl, (blk_cell BK111.out 2).trans rfl, (blk_cell BK111.out 3).trans rfl, (blk_cell BK111.out 4).trans rfl, (blk_cell BK111.out 5).trans rfl, (blk_cell BK111.out 6).trans rfl, (blk_cell BK111.out 7).trans rfl, (blk_cell BK111.out 8).trans rfl, (blk_cell BK111.out 9).trans rfl⟩ (fun hHeld => ?_)
                clear hK K
                refine norm_ (a' := ?_) ?_ ?_
                rotate_left
                · show Act.put _ (some 16) _ = _
                  simp only [Act.put, List.setIfInBounds_toArray, List.set_cons_zero, List.set_cons_succ, i64_w, i32_w]
                  rfl
                refine pure_ (i := 4) (N := some 12) (v := ?_) (a' := ?_) #[true, true, true, true, true, false, false, false, false, false, false, false] rfl rfl (any_of HT_.out (by kernel_rfl)) (fun _ _ _ h => h) (Or.inl ⟨by rfl, ?_⟩) ?_ ?_
                rotate_left
                · intro w'
                  go_simp
                  with_reducible rfl
                rotate_left
                · simp only [Act.put, List.setIfInBounds_toArray, List.set_cons_zero, List.set_cons_succ, i64_w, i32_w]
                  rfl
                refine pure_ (i := 5) (N := some 17) (v := ?_) (a' := ?_) #[true, true, true, true, true, true, false, false, false, false, false, false] rfl rfl (any_of HT_.out (by kernel_rfl)) (fun _ _ _ h => h) (Or.inl ⟨by rfl, ?_⟩) ?_ ?_
                rotate_left
                · intro w'
                  go_simp
                  with_reducible rfl
                rotate_left
                · simp only [Act.put, List.setIfInBounds_toArray, List.set_cons_zero, List.set_cons_succ, i64_w, i32_w]
                  rfl
                refine pure_ (i := 6) (N := some 18) (v := ?_) (a' := ?_) #[true, true, true, true, true, true, true, false, false, false, false, false] rfl rfl (any_of HT_.out (by kernel_rfl)) (fun _ _ _ h => h) (Or.inl ⟨by rfl, ?_⟩) ?_ ?_
                rotate_left
                · intro w'
                  go_simp
                  with_reducible rfl
                rotate_left
                · simp only [Act.put, List.setIfInBounds_toArray, List.set_cons_zero, List.set_cons_succ, i64_w, i32_w]
                  rfl
                refine pure_ (i := 7) (N := some 19) (v := ?_) (a' := ?_) #[true, true, true, true, true, true, true, true, false, false, false, false] rfl rfl (any_of HT_.out (by kernel_rfl)) (fun _ _ _ h => h) (Or.inl ⟨by rfl, ?_⟩) ?_ ?_
                rotate_left
                · intro w'
                  go_simp
                  with_reducible rfl
                rotate_left
                · simp only [Act.put, List.setIfInBounds_toArray, List.set_cons_zero, List.set_cons_succ, i64_w, i32_w]
                  rfl
                refine one_ (i := 8) (N := some 6) #[true, true, true, true, true, true, true, true, true, false, false, false] rfl rfl (one_of HT_.out (by kernel_rfl)) (by decide) (fun K hK => ?_)
                refine box_step ?hg (N := 6) ?hd (cs := #[.int .u32 0, .int .u8 0, .int .u8 0, .int .u16 0]) (t := 28) ?hr ?_; (case hd => rfl); (case hg => rfl); (case hr => first | (go_simp; done) | (go_simp; rfl))
                intro gb124 hg w23 hbox hb
                have n0_ := Aside0.mk (Kd.R_below (by (with_reducible repeat (first | apply Kd.R_alloc | apply Kd.R_drewN | apply Kd.R_drew)); exact HO114.out) hb)
                have n1_ := Aside0.mk (Kd.R_below (by (with_reducible repeat (first | apply Kd.R_alloc | apply Kd.R_drewN | apply Kd.R_drew)); exact HO117.out) hb)
                have n2_ := Aside0.mk (blk_below (g := gb111) (o := .cells #[.int .u16 a0_0, .int .u16 a0_1, .int .u16 a0_2, .int .u16 a0_3, .int .u16 a0_4, .int .u8 a0_5, .int .u8 a0_6, .int .u32 a0_7, .int .u32 a0_8, .bool a0_9] 34 (0, 0)) (by (with_reducible repeat (first | refine blk_drewN ?_ _ | refine blk_drew ?_ | refine blk_alloc ?_ _)); exact BK111.out) hb)
                have n3_ := Aside0.mk (below_step (by repeat (first | (with_reducible first | exact HB.out | apply below_alloc | apply pw_below_drewN | apply below_drew1 | refine below_set ?_ GE111.out) | exact HB.out)) hb)
                have n4_ := Aside0.mk (hbox)
                have n5_ := Aside0.mk ((by rw [hg]; exact (below_size (by repeat (first | (with_reducible first | exact HB.out | apply below_alloc | apply pw_below_drewN | apply below_drew1 | refine below_set ?_ GE111.out) | exact HB.out))) : w.heap.size ≤ gb124))
                have n6_ := Aside0.mk ((by rw [hg]; exact (below_size (by repeat (first | (with_reducible first | exact HB.out | apply below_alloc | apply pw_below_drewN | apply below_drew1 | refine below_set ?_ GE111.out) | exact HB.out))) : w.heap.size ≤ gb124))
                have n7_ := Aside0.mk ((by rw [hg]; exact Nat.ne_of_lt (blk_lt (g := gb111) (o := .cells #[.int .u16 a0_0, .int .u16 a0_1, .int .u16 a0_2, .int .u16 a0_3, .int .u16 a0_4, .int .u8 a0_5, .int .u8 a0_6, .int .u32 a0_7, .int .u32 a0_8, .bool a0_9] 34 (0, 0)) (by (with_reducible repeat (first | refine blk_drewN ?_ _ | refine blk_drew ?_ | refine blk_alloc ?_ _)); exact BK111.out)) : gb111 ≠ gb124))
                have n8_ := Aside0.mk ((by rw [hg]; exact Nat.ne_of_gt (blk_lt (g := gb111) (o := .cells #[.int .u16 a0_0, .int .u16 a0_1, .int .u16 a0_2, .int .u16 a0_3, .int .u16 a0_4, .int .u8 a0_5, .int .u8 a0_6, .int .u32 a0_7, .int .u32 a0_8, .bool a0_9] 34 (0, 0)) (by (with_reducible repeat (first | refine blk_drewN ?_ _ | refine blk_drew ?_ | refine blk_alloc ?_ _)); exact BK111.out)) : gb124 ≠ gb111))
                clear HO114
                clear HO117
                clear BK111
                clear HB
                have HO114 := n0_
                have HO117 := n1_
                have BK111 := n2_
                have HB := n3_
                have BK124 := n4_
                have GW124 := n5_
                have GE124 := n6_
                have NB111_124 := n7_
                have NB124_111 := n8_
                clear n0_ n1_ n2_ n3_ n4_ n5_ n6_ n7_ n8_
                clear hb hbox hg
                refine hK.out _ _ ⟨(blk_cell BK111.out 0).trans rfl, (blk_cell BK111.out 1).trans rfl, (blk_cell BK111.out 2).trans rfl, (blk_cell BK111.out 3).trans rfl, (blk_cell BK111.out 4).trans rfl, (blk_cell BK111.out 5).trans rfl, (blk_cell BK111.out 6).trans rfl, (blk_cell BK111.out 7).trans rfl, (blk_cell BK111.out 8).trans rfl, (blk_cell BK111.out 9).trans rfl⟩ (fun hHeld => ?_)
                clear hK K
                refine norm_ (a' := ?_) ?_ ?_
                rotate_left
                · show Act.put _ (some 6) _ = _
                  simp only [Act.put, List.setIfInBounds_toArray, List.set_cons_zero, List.set_cons_succ, i64_w, i32_w]
                  rfl
                exact norm_ (by simp only [putAll, Act.put, List.setIfInBounds_toArray, List.set_cons_zero, List.set_cons_succ]) (hCont (.slice Ao21 t115.length co21, gb124) _ ⟨hHeld, (by (with_reducible repeat (first | apply Kd.R_alloc | apply Kd.R_drewN | apply Kd.R_drew)); exact Kd.R_mono HO114.out (fun _ hk => hk.2)), (by (with_reducible repeat (first | apply Kd.R_alloc | apply Kd.R_drewN | apply Kd.R_drew)); exact Kd.R_mono HO117.out (fun _ hk => hk.2)), (by (with_reducible repeat (first | refine blk_drewN ?_ _ | refine blk_drew ?_ | refine blk_alloc ?_ _)); exact BK111.out), (by (with_reducible repeat (first | refine blk_drewN ?_ _ | refine blk_drew ?_ | refine blk_alloc ?_ _)); exact BK124.out), GW124.out, GE124.out, NB111_124.out, NB124_111.out, (by repeat (first | (with_reducible first | exact HB.out | apply below_alloc | apply pw_below_drewN | apply below_drew1 | refine below_set ?_ GE111.out | refine below_set ?_ GE124.out) | exact HB.out))⟩)
              · skip
                refine box_step ?hg (N := 6) ?hd (cs := #[.int .u32 0, .int .u8 0, .int .u8 0, .int .u16 0]) (t := 28) ?hr ?_; (case hd => rfl); (case hg => rfl); (case hr => first | (go_simp; done) | (go_simp; rfl))
                intro gb124 hg w21 hbox hb
                have n0_ := Aside0.mk (Kd.R_below (by (with_reducible repeat (first | apply Kd.R_alloc | apply Kd.R_drewN | apply Kd.R_drew)); exact HO114.out) hb)
                have n1_ := Aside0.mk (Kd.R_below (by (with_reducible repeat (first | apply Kd.R_alloc | apply Kd.R_drewN | apply Kd.R_drew)); exact HO117.out) hb)
                have n2_ := Aside0.mk (blk_below (g := gb111) (o := .cells #[.int .u16 a0_0, .int .u16 a0_1, .int .u16 a0_2, .int .u16 a0_3, .int .u16 a0_4, .int .u8 a0_5, .int .u8 a0_6, .int .u32 a0_7, .int .u32 a0_8, .bool a0_9] 34 (0, 0)) (by (with_reducible repeat (first | refine blk_drewN ?_ _ | refine blk_drew ?_ | refine blk_alloc ?_ _)); exact BK111.out) hb)
                have n3_ := Aside0.mk (below_step (by repeat (first | (with_reducible first | exact HB.out | apply below_alloc | apply pw_below_drewN | apply below_drew1 | refine below_set ?_ GE111.out) | exact HB.out)) hb)
                have n4_ := Aside0.mk (hbox)
                have n5_ := Aside0.mk ((by rw [hg]; exact (below_size (by repeat (first | (with_reducible first | exact HB.out | apply below_alloc | apply pw_below_drewN | apply below_drew1 | refine below_set ?_ GE111.out) | exact HB.out))) : w.heap.size ≤ gb124))
                have n6_ := Aside0.mk ((by rw [hg]; exact (below_size (by repeat (first | (with_reducible first | exact HB.out | apply below_alloc | apply pw_below_drewN | apply below_drew1 | refine below_set ?_ GE111.out) | exact HB.out))) : w.heap.size ≤ gb124))
                have n7_ := Aside0.mk ((by rw [hg]; exact Nat.ne_of_lt (blk_lt (g := gb111) (o := .cells #[.int .u16 a0_0, .int .u16 a0_1, .int .u16 a0_2, .int .u16 a0_3, .int .u16 a0_4, .int .u8 a0_5, .int .u8 a0_6, .int .u32 a0_7, .int .u32 a0_8, .bool a0_9] 34 (0, 0)) (by (with_reducible repeat (first | refine blk_drewN ?_ _ | refine blk_drew ?_ | refine blk_alloc ?_ _)); exact BK111.out)) : gb111 ≠ gb124))
                have n8_ := Aside0.mk ((by rw [hg]; exact Nat.ne_of_gt (blk_lt (g := gb111) (o := .cells #[.int .u16 a0_0, .int .u16 a0_1, .int .u16 a0_2, .int .u16 a0_3, .int .u16 a0_4, .int .u8 a0_5, .int .u8 a0_6, .int .u32 a0_7, .int .u32 a0_8, .bool a0_9] 34 (0, 0)) (by (with_reducible repeat (first | refine blk_drewN ?_ _ | refine blk_drew ?_ | refine blk_alloc ?_ _)); exact BK111.out)) : gb124 ≠ gb111))
                clear HO114
                clear HO117
                clear BK111
                clear HB
                have HO114 := n0_
                have HO117 := n1_
                have BK111 := n2_
                have HB := n3_
                have BK124 := n4_
                have GW124 := n5_
                have GE124 := n6_
                have NB111_124 := n7_
                have NB124_111 := n8_
                clear n0_ n1_ n2_ n3_ n4_ n5_ n6_ n7_ n8_
                clear hb hbox hg
                obtain ⟨Ao22, co22, eo22⟩ := Kd.R_slice HO117.out
                (first | subst eo22 | (injection eo22 with f1_ f2_ f3_; have f4_ := f1_.symm; have f5_ := f3_.symm; clear f1_ f2_ f3_; subst f4_; subst f5_))
                refine hK.out _ _ ⟨(blk_cell BK111.out 0).trans rfl, (blk_cell BK111.out 1).trans rfl, (blk_cell BK111.out 2).trans rfl, (blk_cell BK111.out 3).trans rfl, (blk_cell BK111.out 4).trans rfl, (blk_cell BK111.out 5).trans rfl, (blk_cell BK111.out 6).trans rfl, (blk_cell BK111.out 7).trans rfl, (blk_cell BK111.out 8).trans rfl, (blk_cell BK111.out 9).trans rfl⟩ (fun hHeld => ?_)
                clear hK K
                refine norm_ (a' := ?_) ?_ ?_
                rotate_left
                · show Act.put _ (some 6) _ = _
                  simp only [Act.put, List.setIfInBounds_toArray, List.set_cons_zero, List.set_cons_succ, i64_w, i32_w]
                  rfl
                refine one_ (i := 3) (N := some 16) #[true, true, true, true, false, false, false, false, true, false, false, false] rfl rfl (one_of HT_.out (by kernel_rfl)) (by decide) (fun K hK => ?_)
                refine goes_ Tryd.func22 (by kernel_rfl) rfl #[.agg #[.int .u16 a0_0, .int .u16 a0_1, .int .u16 a0_2, .int .u16 a0_3, .int .u16 a0_4, .int .u8 a0_5, .int .u8 a0_6, .int .u32 a0_7, .int .u32 a0_8, .bool a0_9], .slice Ao22 t115.length co22] (by rfl) rfl rfl (by (try simp only [List.map_toArray, List.map_cons, List.map_nil]); first | done | rfl | (simp only [List.length_drop, List.length_take]; rfl)) ?_
                with_reducible refine (impl_MarkerRead.calls a0_0 a0_1 a0_2 a0_3 a0_4 a0_5 a0_6 a0_7 a0_8 a0_9 _ _ t115 t118 t119 t120 t121 t122 true _ ?side1 ?side2 A5.out).mono ?_
                (case side1 => repeat (first | exact (Kd.R_reads' HO117.out).2.2 | (with_reducible refine Kd.C_alloc ?_ _) | (with_reducible refine Kd.C_drewN ?_ _) | (with_reducible refine Kd.C_drew ?_)))
                (case side2 => exact (Kd.R_reads' HO117.out).2.1)
                rintro e w23 ⟨rfl, hb⟩
                refine ⟨_, rfl, ?_⟩
                have n0_ := Aside0.mk (Kd.R_below (by (with_reducible repeat (first | apply Kd.R_alloc | apply Kd.R_drewN | apply Kd.R_drew)); exact HO114.out) hb)
                have n1_ := Aside0.mk (Kd.R_below (by (with_reducible repeat (first | apply Kd.R_alloc | apply Kd.R_drewN | apply Kd.R_drew)); exact HO117.out) hb)
                have n2_ := Aside0.mk (blk_below (g := gb111) (o := .cells #[.int .u16 a0_0, .int .u16 a0_1, .int .u16 a0_2, .int .u16 a0_3, .int .u16 a0_4, .int .u8 a0_5, .int .u8 a0_6, .int .u32 a0_7, .int .u32 a0_8, .bool a0_9] 34 (0, 0)) (by (with_reducible repeat (first | refine blk_drewN ?_ _ | refine blk_drew ?_ | refine blk_alloc ?_ _)); exact BK111.out) hb)
                have n3_ := Aside0.mk (blk_below (g := gb124) (o := .cells #[.int .u32 0, .int .u8 0, .int .u8 0, .int .u16 0] 28 (0, 0)) (by (with_reducible repeat (first | refine blk_drewN ?_ _ | refine blk_drew ?_ | refine blk_alloc ?_ _)); exact BK124.out) hb)
                have n4_ := Aside0.mk (below_step (by repeat (first | (with_reducible first | exact HB.out | apply below_alloc | apply pw_below_drewN | apply below_drew1 | refine below_set ?_ GE111.out | refine below_set ?_ GE124.out) | exact HB.out)) hb)
                clear HO114
                clear HO117
                clear BK111
                clear BK124
                clear HB
                have HO114 := n0_
                have HO117 := n1_
                have BK111 := n2_
                have BK124 := n3_
                have HB := n4_
                clear n0_ n1_ n2_ n3_ n4_
                (try clear hb)
                (try clear hb2)
                (try clear hk)
                (try clear hi)
                refine hK.out _ _ ⟨(blk_cell BK111.out 0).trans rfl, (blk_cell BK111.out 1).trans rfl, (blk_cell BK111.out 2).trans rfl, (blk_cell BK111.out 3).trans rfl, (blk_cell BK111.out 4).trans rfl, (blk_cell BK111.out 5).trans rfl, (blk_cell BK111.out 6).trans rfl, (blk_cell BK111.out 7).trans rfl, (blk_cell BK111.out 8).trans rfl, (blk_cell BK111.out 9).trans rfl⟩ (fun hHeld => ?_)
                clear hK K
                refine norm_ (a' := ?_) ?_ ?_
                rotate_left
                · show Act.put _ (some 16) _ = _
                  simp only [Act.put, List.setIfInBounds_toArray, List.set_cons_zero, List.set_cons_succ, i64_w, i32_w]
                  rfl
                refine pure_ (i := 4) (N := some 12) (v := ?_) (a' := ?_) #[true, true, true, true, true, false, false, false, true, false, false, false] rfl rfl (any_of HT_.out (by kernel_rfl)) (fun _ _ _ h => h) (Or.inl ⟨by rfl, ?_⟩) ?_ ?_
                rotate_left
                · intro w'
                  go_simp
                  with_reducible rfl
                rotate_left
                · simp only [Act.put, List.setIfInBounds_toArray, List.set_cons_zero, List.set_cons_succ, i64_w, i32_w]
                  rfl
                refine pure_ (i := 5) (N := some 17) (v := ?_) (a' := ?_) #[true, true, true, true, true, true, false, false, true, false, false, false] rfl rfl (any_of HT_.out (by kernel_rfl)) (fun _ _ _ h => h) (Or.inl ⟨by rfl, ?_⟩) ?_ ?_
                rotate_left
                · intro w'
                  go_simp
                  with_reducible rfl
                rotate_left
                · simp only [Act.put, List.setIfInBounds_toArray, List.set_cons_zero, List.set_cons_succ, i64_w, i32_w]
                  rfl
                refine pure_ (i := 6) (N := some 18) (v := ?_) (a' := ?_) #[true, true, true, true, true, true, true, false, true, false, false, false] rfl rfl (any_of HT_.out (by kernel_rfl)) (fun _ _ _ h => h) (Or.inl ⟨by rfl, ?_⟩) ?_ ?_
                rotate_left
                · intro w'
                  go_simp
                  with_reducible rfl
                rotate_left
                · simp only [Act.put, List.setIfInBounds_toArray, List.set_cons_zero, List.set_cons_succ, i64_w, i32_w]
                  rfl
                refine pure_ (i := 7) (N := some 19) (v := ?_) (a' := ?_) #[true, true, true, true, true, true, true, true, true, false, false, false] rfl rfl (any_of HT_.out (by kernel_rfl)) (fun _ _ _ h => h) (Or.inl ⟨by rfl, ?_⟩) ?_ ?_
                rotate_left
                · intro w'
                  go_simp
                  with_reducible rfl
                rotate_left
                · simp only [Act.put, List.setIfInBounds_toArray, List.set_cons_zero, List.set_cons_succ, i64_w, i32_w]
                  rfl
                exact norm_ (by simp only [putAll, Act.put, List.setIfInBounds_toArray, List.set_cons_zero, List.set_cons_succ]) (hCont (.slice Ao22 t115.length co22, gb124) _ ⟨hHeld, (by (with_reducible repeat (first | apply Kd.R_alloc | apply Kd.R_drewN | apply Kd.R_drew)); exact Kd.R_mono HO114.out (fun _ hk => hk.2)), (by (with_reducible repeat (first | apply Kd.R_alloc | apply Kd.R_drewN | apply Kd.R_drew)); exact Kd.R_mono HO117.out (fun _ hk => hk.2)), (by (with_reducible repeat (first | refine blk_drewN ?_ _ | refine blk_drew ?_ | refine blk_alloc ?_ _)); exact BK111.out), (by (with_reducible repeat (first | refine blk_drewN ?_ _ | refine blk_drew ?_ | refine blk_alloc ?_ _)); exact BK124.out), GW124.out, GE124.out, NB111_124.out, NB124_111.out, (by repeat (first | (with_reducible first | exact HB.out | apply below_alloc | apply pw_below_drewN | apply below_drew1 | refine below_set ?_ GE111.out | refine below_set ?_ GE124.out) | exact HB.out))⟩)
            · skip
              refine box_step ?hg (N := 6) ?hd (cs := #[.int .u32 0, .int .u8 0, .int .u8 0, .int .u16 0]) (t := 28) ?hr ?_; (case hd => rfl); (case hg => rfl); (case hr => first | (go_simp; done) | (go_simp; rfl))
              intro gb124 hg w20 hbox hb
              have n0_ := Aside0.mk (Kd.R_below (by (with_reducible repeat (first | apply Kd.R_alloc | apply Kd.R_drewN | apply Kd.R_drew)); exact HO114.out) hb)
              have n1_ := Aside0.mk (blk_below (g := gb111) (o := .cells #[.int .u16 a0_0, .int .u16 a0_1, .int .u16 a0_2, .int .u16 a0_3, .int .u16 a0_4, .int .u8 a0_5, .int .u8 a0_6, .int .u32 a0_7, .int .u32 a0_8, .bool a0_9] 34 (0, 0)) (by (with_reducible repeat (first | refine blk_drewN ?_ _ | refine blk_drew ?_ | refine blk_alloc ?_ _)); exact BK111.out) hb)
              have n2_ := Aside0.mk (below_step (by repeat (first | (with_reducible first | exact HB.out | apply below_alloc | apply pw_below_drewN | apply below_drew1 | refine below_set ?_ GE111.out) | exact HB.out)) hb)
              have n3_ := Aside0.mk (hbox)
              have n4_ := Aside0.mk ((by rw [hg]; exact (below_size (by repeat (first | (with_reducible first | exact HB.out | apply below_alloc | apply pw_below_drewN | apply below_drew1 | refine below_set ?_ GE111.out) | exact HB.out))) : w.heap.size ≤ gb124))
              have n5_ := Aside0.mk ((by rw [hg]; exact (below_size (by repeat (first | (with_reducible first | exact HB.out | apply below_alloc | apply pw_below_drewN | apply below_drew1 | refine below_set ?_ GE111.out) | exact HB.out))) : w.heap.size ≤ gb124))
              have n6_ := Aside0.mk ((by rw [hg]; exact Nat.ne_of_lt (blk_lt (g := gb111) (o := .cells #[.int .u16 a0_0, .int .u16 a0_1, .int .u16 a0_2, .int .u16 a0_3, .int .u16 a0_4, .int .u8 a0_5, .int .u8 a0_6, .int .u32 a0_7, .int .u32 a0_8, .bool a0_9] 34 (0, 0)) (by (with_reducible repeat (first | refine blk_drewN ?_ _ | refine blk_drew ?_ | refine blk_alloc ?_ _)); exact BK111.out)) : gb111 ≠ gb124))
              have n7_ := Aside0.mk ((by rw [hg]; exact Nat.ne_of_gt (blk_lt (g := gb111) (o := .cells #[.int .u16 a0_0, .int .u16 a0_1, .int .u16 a0_2, .int .u16 a0_3, .int .u16 a0_4, .int .u8 a0_5, .int .u8 a0_6, .int .u32 a0_7, .int .u32 a0_8, .bool a0_9] 34 (0, 0)) (by (with_reducible repeat (first | refine blk_drewN ?_ _ | refine blk_drew ?_ | refine blk_alloc ?_ _)); exact BK111.out)) : gb124 ≠ gb111))
              clear HO114
              clear BK111
              clear HB
              have HO114 := n0_
              have BK111 := n1_
              have HB := n2_
              have BK124 := n3_
              have GW124 := n4_
              have GE124 := n5_
              have NB111_124 := n6_
              have NB124_111 := n7_
              clear n0_ n1_ n2_ n3_ n4_ n5_ n6_ n7_
              clear hb hbox hg
              refine hK.out _ _ ⟨(blk_cell BK111.out 0).trans rfl, (blk_cell BK111.out 1).trans rfl, (blk_cell BK111.out 2).trans rfl, (blk_cell BK111.out 3).trans rfl, (blk_cell BK111.out 4).trans rfl, (blk_cell BK111.out 5).trans rfl, (blk_cell BK111.out 6).trans rfl, (blk_cell BK111.out 7).trans rfl, (blk_cell BK111.out 8).trans rfl, (blk_cell BK111.out 9).trans rfl⟩ (fun hHeld => ?_)
              clear hK K
              refine norm_ (a' := ?_) ?_ ?_
              rotate_left
              · show Act.put _ (some 6) _ = _
                simp only [Act.put, List.setIfInBounds_toArray, List.set_cons_zero, List.set_cons_succ, i64_w, i32_w]
                rfl
              refine one_ (i := 2) (N := some 15) #[true, true, true, false, false, false, false, false, true, false, false, false] rfl rfl (one_of HT_.out (by kernel_rfl)) (by decide) (fun K hK => ?_)
              refine goes_ Tryd.func12 (by kernel_rfl) rfl #[.slice Ao18 t112.length co18] (by rfl) rfl rfl (by (try simp only [List.map_toArray, List.map_cons, List.map_nil]); first | done | rfl | (simp only [List.length_drop, List.length_take]; rfl)) ?_
              with_reducible refine (bytes_Clone.calls _ _ t112 t115 _ ?side1 ?side2 A4.out).mono ?_
              (case side1 => repeat (first | exact (Kd.R_reads' HO114.out).2.2 | (with_reducible refine Kd.C_alloc ?_ _) | (with_reducible refine Kd.C_drewN ?_ _) | (with_reducible refine Kd.C_drew ?_)))
              (case side2 => exact (Kd.R_reads' HO114.out).2.1)
              rintro e w21 ⟨v116, rfl, ho0, hb⟩
              refine ⟨_, rfl, ?_⟩
              have n0_ := Aside0.mk (Kd.R_elder' (by (with_reducible repeat (first | apply Kd.R_alloc | apply Kd.R_drewN | apply Kd.R_drew)); exact HO114.out) (Kd.R_base ho0) hb)
              have n1_ := Aside0.mk (Kd.R_lower (Kd.R_new' ho0 (Kd.R_lt (by (with_reducible repeat (first | apply Kd.R_alloc | apply Kd.R_drewN | apply Kd.R_drew)); exact HO114.out))) (below_size (by repeat (first | (with_reducible first | exact HB.out | apply below_alloc | apply pw_below_drewN | apply below_drew1 | refine below_set ?_ GE111.out | refine below_set ?_ GE124.out) | exact HB.out))))
              have n2_ := Aside0.mk (blk_below (g := gb111) (o := .cells #[.int .u16 a0_0, .int .u16 a0_1, .int .u16 a0_2, .int .u16 a0_3, .int .u16 a0_4, .int .u8 a0_5, .int .u8 a0_6, .int .u32 a0_7, .int .u32 a0_8, .bool a0_9] 34 (0, 0)) (by (with_reducible repeat (first | refine blk_drewN ?_ _ | refine blk_drew ?_ | refine blk_alloc ?_ _)); exact BK111.out) hb)
              have n3_ := Aside0.mk (blk_below (g := gb124) (o := .cells #[.int .u32 0, .int .u8 0, .int .u8 0, .int .u16 0] 28 (0, 0)) (by (with_reducible repeat (first | refine blk_drewN ?_ _ | refine blk_drew ?_ | refine blk_alloc ?_ _)); exact BK124.out) hb)
              have n4_ := Aside0.mk (below_step (by repeat (first | (with_reducible first | exact HB.out | apply below_alloc | apply pw_below_drewN | apply below_drew1 | refine below_set ?_ GE111.out | refine below_set ?_ GE124.out) | exact HB.out)) hb)
              clear HO114
              clear BK111
              clear BK124
              clear HB
              have HO114 := n0_
              have HO117 := n1_
              have BK111 := n2_
              have BK124 := n3_
              have HB := n4_
              clear n0_ n1_ n2_ n3_ n4_
              (try clear hb)
              (try clear hb2)
              (try clear hk)
              (try clear hi)
              (try clear ho0)
              obtain ⟨Ao22, co22, eo22⟩ := Kd.R_slice HO117.out
              (first | subst eo22 | (injection eo22 with f1_ f2_ f3_; have f4_ := f1_.symm; have f5_ := f3_.symm; clear f1_ f2_ f3_; subst f4_; subst f5_))
              refine hK.out _ _ ⟨(blk_cell BK111.out 0).trans rfl, (blk_cell BK111.out 1).trans rfl, (blk_cell BK111.out 2).trans rfl, (blk_cell BK111.out 3).trans rfl, (blk_cell BK111.out 4).trans rfl, (blk_cell BK111.out 5).trans rfl, (blk_cell BK111.out 6).trans rfl, (blk_cell BK111.out 7).trans rfl, (blk_cell BK111.out 8).trans rfl, (blk_cell BK111.out 9).trans rfl⟩ (fun hHeld => ?_)
              clear hK K
              refine norm_ (a' := ?_) ?_ ?_
              rotate_left
              · show Act.put _ (some 15) _ = _
                simp only [Act.put, List.setIfInBounds_toArray, List.set_cons_zero, List.set_cons_succ, i64_w, i32_w]
                rfl
              refine one_ (i := 3) (N := some 16) #[true, true, true, true, false, false, false, false, true, false, false, false] rfl rfl (one_of HT_.out (by kernel_rfl)) (by decide) (fun K hK => ?_)
              refine goes_ Tryd.func22 (by kernel_rfl) rfl #[.agg #[.int .u16 a0_0, .int .u16 a0_1, .int .u16 a0_2, .int .u16 a0_3, .int .u16 a0_4, .int .u8 a0_5, .int .u8 a0_6, .int .u32 a0_7, .int .u32 a0_8, .bool a0_9], .slice Ao22 t115.length co22] (by rfl) rfl rfl (by (try simp only [List.map_toArray, List.map_cons, List.map_nil]); first | done | rfl | (simp only [List.length_drop, List.length_take]; rfl)) ?_
              with_reducible refine (impl_MarkerRead.calls a0_0 a0_1 a0_2 a0_3 a0_4 a0_5 a0_6 a0_7 a0_8 a0_9 _ _ t115 t118 t119 t120 t121 t122 true _ ?side1 ?side2 A5.out).mono ?_
              (case side1 => repeat (first | exact (Kd.R_reads' HO117.out).2.2 | (with_reducible refine Kd.C_alloc ?_ _) | (with_reducible refine Kd.C_drewN ?_ _) | (with_reducible refine Kd.C_drew ?_)))
              (case side2 => exact (Kd.R_reads' HO117.out).2.1)
              rintro e w23 ⟨rfl, hb⟩
              refine ⟨_, rfl, ?_⟩
              have n0_ := Aside0.mk (Kd.R_below (by (with_reducible repeat (first | apply Kd.R_alloc | apply Kd.R_drewN | apply Kd.R_drew)); exact HO114.out) hb)
              have n1_ := Aside0.mk (Kd.R_below (by (with_reducible repeat (first | apply Kd.R_alloc | apply Kd.R_drewN | apply Kd.R_drew)); exact HO117.out) hb)
              have n2_ := Aside0.mk (blk_below (g := gb111) (o := .cells #[.int .u16 a0_0, .int .u16 a0_1, .int .u16 a0_2, .int .u16 a0_3, .int .u16 a0_4, .int .u8 a0_5, .int .u8 a0_6, .int .u32 a0_7, .int .u32 a0_8, .bool a0_9] 34 (0, 0)) (by (with_reducible repeat (first | refine blk_drewN ?_ _ | refine blk_drew ?_ | refine blk_alloc ?_ _)); exact BK111.out) hb)
              have n3_ := Aside0.mk (blk_below (g := gb124) (o := .cells #[.int .u32 0, .int .u8 0, .int .u8 0, .int .u16 0] 28 (0, 0)) (by (with_reducible repeat (first | refine blk_drewN ?_ _ | refine blk_drew ?_ | refine blk_alloc ?_ _)); exact BK124.out) hb)
              have n4_ := Aside0.mk (below_step (by repeat (first | (with_reducible first | exact HB.out | apply below_alloc | apply pw_below_drewN | apply below_drew1 | refine below_set ?_ GE111.out | refine below_set ?_ GE124.out) | exact HB.out)) hb)
              clear HO114
              clear HO117
              clear BK111
              clear BK124
              clear HB
              have HO114 := n0_
              have HO117 := n1_
              have BK111 := n2_
              have BK124 := n3_
              have HB := n4_
              clear n0_ n1_ n2_ n3_ n4_
              (try clear hb)
              (try clear hb2)
              (try clear hk)
              (try clear hi)
              refine hK.out _ _ ⟨(blk_cell BK111.out 0).trans rfl, (blk_cell BK111.out 1).trans rfl, (blk_cell BK111.out 2).trans rfl, (blk_cell BK111.out 3).trans rfl, (blk_cell BK111.out 4).trans rfl, (blk_cell BK111.out 5).trans rfl, (blk_cell BK111.out 6).trans rfl, (blk_cell BK111.out 7).trans rfl, (blk_cell BK111.out 8).trans rfl, (blk_cell BK111.out 9).trans rfl⟩ (fun hHeld => ?_)
              clear hK K
              refine norm_ (a' := ?_) ?_ ?_
              rotate_left
              · show Act.put _ (some 16) _ = _
                simp only [Act.put, List.setIfInBounds_toArray, List.set_cons_zero, List.set_cons_succ, i64_w, i32_w]
                rfl
              refine pure_ (i := 4) (N := some 12) (v := ?_) (a' := ?_) #[true, true, true, true, true, false, false, false, true, false, false, false] rfl rfl (any_of HT_.out (by kernel_rfl)) (fun _ _ _ h => h) (Or.inl ⟨by rfl, ?_⟩) ?_ ?_
              rotate_left
              · intro w'
                go_simp
                with_reducible rfl
              rotate_left
              · simp only [Act.put, List.setIfInBounds_toArray, List.set_cons_zero, List.set_cons_succ, i64_w, i32_w]
                rfl
              refine pure_ (i := 5) (N := some 17) (v := ?_) (a' := ?_) #[true, true, true, true, true, true, false, false, true, false, false, false] rfl rfl (any_of HT_.out (by kernel_rfl)) (fun _ _ _ h => h) (Or.inl ⟨by rfl, ?_⟩) ?_ ?_
              rotate_left
              · intro w'
                go_simp
                with_reducible rfl
              rotate_left
              · simp only [Act.put, List.setIfInBounds_toArray, List.set_cons_zero, List.set_cons_succ, i64_w, i32_w]
                rfl
              refine pure_ (i := 6) (N := some 18) (v := ?_) (a' := ?_) #[true, true, true, true, true, true, true, false, true, false, false, false] rfl rfl (any_of HT_.out (by kernel_rfl)) (fun _ _ _ h => h) (Or.inl ⟨by rfl, ?_⟩) ?_ ?_
              rotate_left
              · intro w'
                go_simp
                with_reducible rfl
              rotate_left
              · simp only [Act.put, List.setIfInBounds_toArray, List.set_cons_zero, List.set_cons_succ, i64_w, i32_w]
                rfl
              refine pure_ (i := 7) (N := some 19) (v := ?_) (a' := ?_) #[true, true, true, true, true, true, true, true, true, false, false, false] rfl rfl (any_of HT_.out (by kernel_rfl)) (fun _ _ _ h => h) (Or.inl ⟨by rfl, ?_⟩) ?_ ?_
              rotate_left
              · intro w'
                go_simp
                with_reducible rfl
              rotate_left
              · simp only [Act.put, List.setIfInBounds_toArray, List.set_cons_zero, List.set_cons_succ, i64_w, i32_w]
                rfl
              exact norm_ (by simp only [putAll, Act.put, List.setIfInBounds_toArray, List.set_cons_zero, List.set_cons_succ]) (hCont (.slice Ao22 t115.length co22, gb124) _ ⟨hHeld, (by (with_reducible repeat (first | apply Kd.R_alloc | apply Kd.R_drewN | apply Kd.R_drew)); exact Kd.R_mono HO114.out (fun _ hk => hk.2)), (by (with_reducible repeat (first | apply Kd.R_alloc | apply Kd.R_drewN | apply Kd.R_drew)); exact Kd.R_mono HO117.out (fun _ hk => hk.2)), (by (with_reducible repeat (first | refine blk_drewN ?_ _ | refine blk_drew ?_ | refine blk_alloc ?_ _)); exact BK111.out), (by (with_reducible repeat (first | refine blk_drewN ?_ _ | refine blk_drew ?_ | refine blk_alloc ?_ _)); exact BK124.out), GW124.out, GE124.out, NB111_124.out, NB124_111.out, (by repeat (first | (with_reducible first | exact HB.out | apply below_alloc | apply pw_below_drewN | apply below_drew1 | refine below_set ?_ GE111.out | refine below_set ?_ GE124.out) | exact HB.out))⟩)
          rintro ⟨v116, gb124⟩ w24 ⟨hS_, h0_, h1_, h2_, h3_, h4_, h5_, h6_, h7_, h8_⟩
          have n0_ : Aside0 (Kd.R (Kd.int .u8) 5 w24 w.heap.size (fun k_ => some k_ ≠ (v116 : Value).ownBlock) (.slice Ao18 t112.length co18) t112) := ⟨h0_⟩
          have n1_ : Aside0 (Kd.R (Kd.int .u8) 5 w24 w.heap.size (fun k_ => some k_ ≠ (.slice Ao18 t112.length co18 : Value).ownBlock) v116 t115) := ⟨h1_⟩
          have n2_ : Aside0 (w24.heap[gb111]? = some (.cells #[.int .u16 a0_0, .int .u16 a0_1, .int .u16 a0_2, .int .u16 a0_3, .int .u16 a0_4, .int .u8 a0_5, .int .u8 a0_6, .int .u32 a0_7, .int .u32 a0_8, .bool a0_9] 34 (0, 0))) := ⟨h2_⟩
          have n3_ : Aside0 (w24.heap[gb124]? = some (.cells #[.int .u32 0, .int .u8 0, .int .u8 0, .int .u16 0] 28 (0, 0))) := ⟨h3_⟩
          have n4_ : Aside0 (w.heap.size ≤ gb124) := ⟨h4_⟩
          have n5_ : Aside0 (w.heap.size ≤ gb124) := ⟨h5_⟩
          have n6_ : Aside0 (gb111 ≠ gb124) := ⟨h6_⟩
          have n7_ : Aside0 (gb124 ≠ gb111) := ⟨h7_⟩
          have n8_ : Aside0 (Below w.heap.size w w24) := ⟨h8_⟩
          clear HO114
          clear BK111
          clear HB
          clear h0_ h1_ h2_ h3_ h4_ h5_ h6_ h7_ h8_
          have HO114 := n0_
          have HO117 := n1_
          have BK111 := n2_
          have BK124 := n3_
          have GW124 := n4_
          have GE124 := n5_
          have NB111_124 := n6_
          have NB124_111 := n7_
          have HB := n8_
          clear n0_ n1_ n2_ n3_ n4_ n5_ n6_ n7_ n8_
          have hHeld : w24.cell? ⟨gb111, 0, none⟩ = some (.int .u16 a0_0) ∧ w24.cell? ⟨gb111, 1, none⟩ = some (.int .u16 a0_1) ∧ w24.cell? ⟨gb111, 2, none⟩ = some (.int .u16 a0_2) ∧ w24.cell? ⟨gb111, 3, none⟩ = some (.int .u16 a0_3) ∧ w24.cell? ⟨gb111, 4, none⟩ = some (.int .u16 a0_4) ∧ w24.cell? ⟨gb111, 5, none⟩ = some (.int .u8 a0_5) ∧ w24.cell? ⟨gb111, 6, none⟩ = some (.int .u8 a0_6) ∧ w24.cell? ⟨gb111, 7, none⟩ = some (.int .u32 a0_7) ∧ w24.cell? ⟨gb111, 8, none⟩ = some (.int .u32 a0_8) ∧ w24.cell? ⟨gb111, 9, none⟩ = some (.bool a0_9) := hS_
          refine norm_ (a' := ?_) ?_ ?_
          rotate_left
          · simp only [putAll, Act.put, List.setIfInBounds_toArray, List.set_cons_zero, List.set_cons_succ]
            rfl
          refine one_ (i := 9) (N := none) #[true, true, true, true, true, true, true, true, true, true, false, false] rfl rfl (one_of HT_.out (by kernel_rfl)) (by decide) (fun K hK => ?_)
          have hs25 : w24.cell? ⟨gb124, 0, none⟩ = some (.int .u32 0) := (blk_cell BK124.out 0).trans rfl
          have hfs25 := blk_frozen BK124.out 0
          have hns25_0 := NB111_124.out
          have hms25_0 := NB124_111.out
          have hs26 : w24.cell? ⟨gb124, 1, none⟩ = some (.int .u8 0) := (blk_cell BK124.out 1).trans rfl
          have hfs26 := blk_frozen BK124.out 1
          have hns26_0 := NB111_124.out
          have hms26_0 := NB124_111.out
          have hs27 : w24.cell? ⟨gb124, 2, none⟩ = some (.int .u8 0) := (blk_cell BK124.out 2).trans rfl
          have hfs27 := blk_frozen BK124.out 2
          have hns27_0 := NB111_124.out
          have hms27_0 := NB124_111.out
          have hs28 : w24.cell? ⟨gb124, 3, none⟩ = some (.int .u16 0) := (blk_cell BK124.out 3).trans rfl
          have hfs28 := blk_frozen BK124.out 3
          have hns28_0 := NB111_124.out
          have hms28_0 := NB124_111.out
          refine skip_ (w1 := ?_) (by rfl) rfl ?_ ?_
          rotate_left
          · go_simp
            rfl
          refine hK.out _ _ ⟨((cell_far (p := ⟨gb124, _, none⟩) NB111_124.out _).trans (((cell_far (p := ⟨gb124, _, none⟩) NB111_124.out _).trans (((cell_far (p := ⟨gb124, _, none⟩) NB111_124.out _).trans (((cell_far (p := ⟨gb124, _, none⟩) NB111_124.out _).trans (hHeld.1)))))))), ((cell_far (p := ⟨gb124, _, none⟩) NB111_124.out _).trans (((cell_far (p := ⟨gb124, _, none⟩) NB111_124.out _).trans (((cell_far (p := ⟨gb124, _, none⟩) NB111_124.out _).trans (((cell_far (p := ⟨gb124, _, none⟩) NB111_124.out _).trans (hHeld.2.1)))))))), ((cell_far (p := ⟨gb124, _, none⟩) NB111_124.out _).trans (((cell_far (p := ⟨gb124, _, none⟩) NB111_124.out _).trans (((cell_far (p := ⟨gb124, _, none⟩) NB111_124.out _).trans (((cell_far (p := ⟨gb124, _, none⟩) NB111_124.out _).trans (hHeld.2.2.1)))))))), ((cell_far (p := ⟨gb124, _, none⟩) NB111_124.out _).trans (((cell_far (p := ⟨gb124, _, none⟩) NB111_124.out _).trans (((cell_far (p := ⟨gb124, _, none⟩) NB111_124.out _).trans (((cell_far (p := ⟨gb124, _, none⟩) NB111_124.out _).trans (hHeld.2.2.2.1)))))))), ((cell_far (p := ⟨gb124, _, none⟩) NB111_124.out _).trans (((cell_far (p := ⟨gb124, _, none⟩) NB111_124.out _).trans (((cell_far (p := ⟨gb124, _, none⟩) NB111_124.out _).trans (((cell_far (p := ⟨gb124, _, none⟩) NB111_124.out _).trans (hHeld.2.2.2.2.1)))))))), ((cell_far (p := ⟨gb124, _, none⟩) NB111_124.out _).trans (((cell_far (p := ⟨gb124, _, none⟩) NB111_124.out _).trans (((cell_far (p := ⟨gb124, _, none⟩) NB111_124.out _).trans (((cell_far (p := ⟨gb124, _, none⟩) NB111_124.out _).trans (hHeld.2.2.2.2.2.1)))))))), ((cell_far (p := ⟨gb124, _, none⟩) NB111_124.out _).trans (((cell_far (p := ⟨gb124, _, none⟩) NB111_124.out _).trans (((cell_far (p := ⟨gb124, _, none⟩) NB111_124.out _).trans (((cell_far (p := ⟨gb124, _, none⟩) NB111_124.out _).trans (hHeld.2.2.2.2.2.2.1)))))))), ((cell_far (p := ⟨gb124, _, none⟩) NB111_124.out _).trans (((cell_far (p := ⟨gb124, _, none⟩) NB111_124.out _).trans (((cell_far (p := ⟨gb124, _, none⟩) NB111_124.out _).trans (((cell_far (p := ⟨gb124, _, none⟩) NB111_124.out _).trans (hHeld.2.2.2.2.2.2.2.1)))))))), ((cell_far (p := ⟨gb124, _, none⟩) NB111_124.out _).trans (((cell_far (p := ⟨gb124, _, none⟩) NB111_124.out _).trans (((cell_far (p := ⟨gb124, _, none⟩) NB111_124.out _).trans (((cell_far (p := ⟨gb124, _, none⟩) NB111_124.out _).trans (hHeld.2.2.2.2.2.2.2.2.1)))))))), ((cell_far (p := ⟨gb124, _, none⟩) NB111_124.out _).trans (((cell_far (p := ⟨gb124, _, none⟩) NB111_124.out _).trans (((cell_far (p := ⟨gb124, _, none⟩) NB111_124.out _).trans (((cell_far (p := ⟨gb124, _, none⟩) NB111_124.out _).trans (hHeld.2.2.2.2.2.2.2.2.2))))))))⟩ (fun hHeld => ?_)
          clear hK K
          refine pure_ (i := 10) (N := some 7) (v := ?_) (a' := ?_) #[true, true, true, true, true, true, true, true, true, true, true, false] rfl rfl (any_of HT_.out (by kernel_rfl)) (fun _ _ _ h => h) (Or.inl ⟨by rfl, ?_⟩) ?_ ?_
          rotate_left
          · intro w'
            go_simp
            with_reducible rfl
          rotate_left
          · simp only [Act.put, List.setIfInBounds_toArray, List.set_cons_zero, List.set_cons_succ, i64_w, i32_w]
            rfl
          refine pure_ (i := 11) (N := some 8) (v := ?_) (a' := ?_) #[true, true, true, true, true, true, true, true, true, true, true, true] rfl rfl (any_of HT_.out (by kernel_rfl)) (fun _ _ _ h => h) (Or.inl ⟨by rfl, ?_⟩) ?_ ?_
          rotate_left
          · intro w'
            go_simp
            with_reducible rfl
          rotate_left
          · simp only [Act.put, List.setIfInBounds_toArray, List.set_cons_zero, List.set_cons_succ, i64_w, i32_w]
            rfl
          refine done_ (done_of HT_.out (by kernel_rfl)) ?_
          try go_wp2
          have n0_ : Aside0 (Kd.R (Kd.int .u8) 5 ((((w24.setCell ⟨gb124, 0, none⟩ (.int .u32 t118)).setCell ⟨gb124, 1, none⟩ (.int .u8 t119)).setCell ⟨gb124, 2, none⟩ (.int .u8 t120)).setCell ⟨gb124, 3, none⟩ (.int .u16 t121)) w.heap.size (fun k_ => some k_ ≠ (v116 : Value).ownBlock) (.slice Ao18 t112.length co18) t112) := ⟨by (with_reducible repeat (first | apply Kd.R_alloc | apply Kd.R_drewN | apply Kd.R_drew)); exact Kd.R_mono (Kd.R_far (p := ⟨gb124, 3, none⟩) (Kd.R_far (p := ⟨gb124, 2, none⟩) (Kd.R_far (p := ⟨gb124, 1, none⟩) (Kd.R_far (p := ⟨gb124, 0, none⟩) (Kd.R_types HO114.out BK124.out (by decide)) (fun _ hk => hk.2) (.int .u32 t118)) (fun _ hk => hk.2) (.int .u8 t119)) (fun _ hk => hk.2) (.int .u8 t120)) (fun _ hk => hk.2) (.int .u16 t121)) (fun _ hk => hk.1)⟩
          have n1_ : Aside0 (Kd.R (Kd.int .u8) 5 ((((w24.setCell ⟨gb124, 0, none⟩ (.int .u32 t118)).setCell ⟨gb124, 1, none⟩ (.int .u8 t119)).setCell ⟨gb124, 2, none⟩ (.int .u8 t120)).setCell ⟨gb124, 3, none⟩ (.int .u16 t121)) w.heap.size (fun k_ => some k_ ≠ (.slice Ao18 t112.length co18 : Value).ownBlock) v116 t115) := ⟨by (with_reducible repeat (first | apply Kd.R_alloc | apply Kd.R_drewN | apply Kd.R_drew)); exact Kd.R_mono (Kd.R_far (p := ⟨gb124, 3, none⟩) (Kd.R_far (p := ⟨gb124, 2, none⟩) (Kd.R_far (p := ⟨gb124, 1, none⟩) (Kd.R_far (p := ⟨gb124, 0, none⟩) (Kd.R_types HO117.out BK124.out (by decide)) (fun _ hk => hk.2) (.int .u32 t118)) (fun _ hk => hk.2) (.int .u8 t119)) (fun _ hk => hk.2) (.int .u8 t120)) (fun _ hk => hk.2) (.int .u16 t121)) (fun _ hk => hk.1)⟩
          have n2_ : Aside0 (((((w24.setCell ⟨gb124, 0, none⟩ (.int .u32 t118)).setCell ⟨gb124, 1, none⟩ (.int .u8 t119)).setCell ⟨gb124, 2, none⟩ (.int .u8 t120)).setCell ⟨gb124, 3, none⟩ (.int .u16 t121)).heap[gb111]? = some (.cells #[.int .u16 a0_0, .int .u16 a0_1, .int .u16 a0_2, .int .u16 a0_3, .int .u16 a0_4, .int .u8 a0_5, .int .u8 a0_6, .int .u32 a0_7, .int .u32 a0_8, .bool a0_9] 34 (0, 0))) := ⟨by (with_reducible repeat (first | refine blk_drewN ?_ _ | refine blk_drew ?_ | refine blk_alloc ?_ _)); refine blk_far ?_ NB111_124.out _; (with_reducible repeat (first | refine blk_drewN ?_ _ | refine blk_drew ?_ | refine blk_alloc ?_ _)); refine blk_far ?_ NB111_124.out _; (with_reducible repeat (first | refine blk_drewN ?_ _ | refine blk_drew ?_ | refine blk_alloc ?_ _)); refine blk_far ?_ NB111_124.out _; (with_reducible repeat (first | refine blk_drewN ?_ _ | refine blk_drew ?_ | refine blk_alloc ?_ _)); refine blk_far ?_ NB111_124.out _; (with_reducible repeat (first | refine blk_drewN ?_ _ | refine blk_drew ?_ | refine blk_alloc ?_ _)); exact BK111.out⟩
          have n3_ : Aside0 (((((w24.setCell ⟨gb124, 0, none⟩ (.int .u32 t118)).setCell ⟨gb124, 1, none⟩ (.int .u8 t119)).setCell ⟨gb124, 2, none⟩ (.int .u8 t120)).setCell ⟨gb124, 3, none⟩ (.int .u16 t121)).heap[gb124]? = some (.cells #[.int .u32 t118, .int .u8 t119, .int .u8 t120, .int .u16 t121] 28 (0, 0))) := ⟨by (with_reducible repeat (first | refine blk_drewN ?_ _ | refine blk_drew ?_ | refine blk_alloc ?_ _)); refine blk_put (cs := #[.int .u32 t118, .int .u8 t119, .int .u8 t120, .int .u16 0]) ?_ 3 _ rfl; (with_reducible repeat (first | refine blk_drewN ?_ _ | refine blk_drew ?_ | refine blk_alloc ?_ _)); refine blk_put (cs := #[.int .u32 t118, .int .u8 t119, .int .u8 0, .int .u16 0]) ?_ 2 _ rfl; (with_reducible repeat (first | refine blk_drewN ?_ _ | refine blk_drew ?_ | refine blk_alloc ?_ _)); refine blk_put (cs := #[.int .u32 t118, .int .u8 0, .int .u8 0, .int .u16 0]) ?_ 1 _ rfl; (with_reducible repeat (first | refine blk_drewN ?_ _ | refine blk_drew ?_ | refine blk_alloc ?_ _)); refine blk_put (cs := #[.int .u32 0, .int .u8 0, .int .u8 0, .int .u16 0]) ?_ 0 _ rfl; (with_reducible repeat (first | refine blk_drewN ?_ _ | refine blk_drew ?_ | refine blk_alloc ?_ _)); exact BK124.out⟩
          have n4_ : Aside0 (Below w.heap.size w ((((w24.setCell ⟨gb124, 0, none⟩ (.int .u32 t118)).setCell ⟨gb124, 1, none⟩ (.int .u8 t119)).setCell ⟨gb124, 2, none⟩ (.int .u8 t120)).setCell ⟨gb124, 3, none⟩ (.int .u16 t121))) := ⟨by repeat (first | (with_reducible first | exact HB.out | apply below_alloc | apply pw_below_drewN | apply below_drew1 | refine below_set ?_ GE111.out | refine below_set ?_ GE124.out) | exact HB.out)⟩
          (try clear HO114)
          (try clear HO117)
          (try clear BK111)
          (try clear BK124)
          (try clear HB)
          generalize ((((w24.setCell ⟨gb124, 0, none⟩ (.int .u32 t118)).setCell ⟨gb124, 1, none⟩ (.int .u8 t119)).setCell ⟨gb124, 2, none⟩ (.int .u8 t120)).setCell ⟨gb124, 3, none⟩ (.int .u16 t121)) = w29 at n0_ n1_ n2_ n3_ n4_ ⊢
          have HO114 := n0_
          have HO117 := n1_
          have BK111 := n2_
          have BK124 := n3_
          have HB := n4_
          clear n0_ n1_ n2_ n3_ n4_
          have n0_ := Aside0.mk (Kd.R_drew HO114.out)
          have n1_ := Aside0.mk (Kd.R_drew HO117.out)
          have n2_ := Aside0.mk (blk_drew BK111.out)
          have n3_ := Aside0.mk (blk_drew BK124.out)
          have n4_ := Aside0.mk (below_drew1 HB.out)
          clear HO114
          clear HO117
          clear BK111
          clear BK124
          clear HB
          have HO114 := n0_
          have HO117 := n1_
          have BK111 := n2_
          have BK124 := n3_
          have HB := n4_
          clear n0_ n1_ n2_ n3_ n4_
          refine start_ (n := 25) (S := fun w' => w'.cell? ⟨gb111, 0, none⟩ = some (.int .u16 a0_0) ∧ w'.cell? ⟨gb111, 1, none⟩ = some (.int .u16 a0_1) ∧ w'.cell? ⟨gb111, 2, none⟩ = some (.int .u16 a0_2) ∧ w'.cell? ⟨gb111, 3, none⟩ = some (.int .u16 a0_3) ∧ w'.cell? ⟨gb111, 4, none⟩ = some (.int .u16 a0_4) ∧ w'.cell? ⟨gb111, 5, none⟩ = some (.int .u8 a0_5) ∧ w'.cell? ⟨gb111, 6, none⟩ = some (.int .u8 a0_6) ∧ w'.cell? ⟨gb111, 7, none⟩ = some (.int .u32 a0_7) ∧ w'.cell? ⟨gb111, 8, none⟩ = some (.int .u32 a0_8) ∧ w'.cell? ⟨gb111, 9, none⟩ = some (.bool a0_9) ∧ w'.cell? ⟨gb124, 0, none⟩ = some (.int .u32 t118) ∧ w'.cell? ⟨gb124, 1, none⟩ = some (.int .u8 t119) ∧ w'.cell? ⟨gb124, 2, none⟩ = some (.int .u8 t120) ∧ w'.cell? ⟨gb124, 3, none⟩ = some (.int .u16 t121)) (ds := []) #[false, false, false, false, false, false, false, false, false, false, false, false, false, false, false, false, false, false, false, false, false, false, false, false, false] (by kernel_rfl) rfl rfl ⟨(blk_cell BK111.out 0).trans rfl, (blk_cell BK111.out 1).trans rfl, (blk_cell BK111.out 2).trans rfl, (blk_cell BK111.out 3).trans rfl, (blk_cell BK111.out 4).trans rfl, (blk_cell BK111.out 5).trans rfl, (blk_cell BK111.out 6).trans rfl, (blk_cell BK111.out 7).trans rfl, (blk_cell BK111.out 8).trans rfl, (blk_cell BK111.out 9).trans rfl, (blk_cell BK124.out 0).trans rfl, (blk_cell BK124.out 1).trans rfl, (blk_cell BK124.out 2).trans rfl, (blk_cell BK124.out 3).trans rfl⟩ (fun hHeld => ?_); refine with_tabW laws_FnPacketMarker.tab3 laws_FnPacketMarker.bits3 (fun HT_ HW_ => ?_)
          generalize w29.drew = w30 at HO114 HO117 BK111 BK124 HB hHeld ⊢
          refine pure_ (i := 0) (N := some 20) (v := ?_) (a' := ?_) #[true, false, false, false, false, false, false, false, false, false, false, false, false, false, false, false, false, false, false, false, false, false, false, false, false] rfl rfl (any_of HT_.out (by kernel_rfl)) (fun _ _ _ h => h) (Or.inl ⟨by rfl, ?_⟩) ?_ ?_
          rotate_left
          · intro w'
            go_simp
            with_reducible rfl
          rotate_left
          · simp only [Act.put, List.setIfInBounds_toArray, List.set_cons_zero, List.set_cons_succ, i64_w, i32_w]
            rfl
          refine pure_ (i := 2) (N := some 22) (v := ?_) (a' := ?_) #[true, false, true, false, false, false, false, false, false, false, false, false, false, false, false, false, false, false, false, false, false, false, false, false, false] rfl rfl (any_of HT_.out (by kernel_rfl)) (fun _ _ _ h => h) (Or.inl ⟨by rfl, ?_⟩) ?_ ?_
          rotate_left
          · intro w'
            go_simp
            with_reducible rfl
          rotate_left
          · simp only [Act.put, List.setIfInBounds_toArray, List.set_cons_zero, List.set_cons_succ, i64_w, i32_w]
            rfl
          refine take_ (i := 1) (N := some 21) (v := ?_) (a' := ?_) #[true, true, true, false, false, false, false, false, false, false, false, false, false, false, false, false, false, false, false, false, false, false, false, false, false] rfl rfl (take_ofW HT_.out HW_.out (by kernel_rfl)) (fun _ _ _ h => h) (Or.inl ⟨by rfl, ?_⟩) hHeld ?_ ?_
          rotate_left
          · rintro w' ⟨s0, s1, s2, s3, s4, s5, s6, s7, s8, s9, s10, s11, s12, s13⟩
            go_simp
            with_reducible rfl
          rotate_left
          · simp only [Act.put, List.setIfInBounds_toArray, List.set_cons_zero, List.set_cons_succ, i64_w, i32_w]
            rfl
          refine one_ (i := 3) (N := some 23) #[true, true, true, true, false, false, false, false, false, false, false, false, false, false, false, false, false, false, false, false, false, false, false, false, false] rfl rfl (one_of HT_.out (by kernel_rfl)) (by decide) (fun K hK => ?_)
          refine goes_ Tryd.func23 (by kernel_rfl) rfl #[.agg #[.int .u16 a0_0, .int .u16 a0_1, .int .u16 a0_2, .int .u16 a0_3, .int .u16 a0_4, .int .u8 a0_5, .int .u8 a0_6, .int .u32 a0_7, .int .u32 a0_8, .bool a0_9], .int .u8 a1] (by rfl) rfl rfl (by (try simp only [List.map_toArray, List.map_cons, List.map_nil]); first | done | rfl | (simp only [List.length_drop, List.length_take]; rfl)) ?_
          with_reducible refine (spec_PacketMarker.calls a0_0 a0_1 a0_2 a0_3 a0_4 a0_5 a0_6 a0_7 a0_8 a0_9 a1 t125 _ A6.out).mono ?_
          rintro e w31 ⟨v126, rfl, ho0, hb⟩
          refine ⟨_, rfl, ?_⟩
          have n0_ := Aside0.mk (Kd.R_elder' (by (with_reducible repeat (first | apply Kd.R_alloc | apply Kd.R_drewN | apply Kd.R_drew)); exact HO114.out) (Kd.R_base ho0) hb)
          have n1_ := Aside0.mk (Kd.R_elder' (by (with_reducible repeat (first | apply Kd.R_alloc | apply Kd.R_drewN | apply Kd.R_drew)); exact HO117.out) (Kd.R_base ho0) hb)
          have n2_ := Aside0.mk (Kd.R_lower (Kd.R_new' (Kd.R_new' ho0 (Kd.R_lt (by (with_reducible repeat (first | apply Kd.R_alloc | apply Kd.R_drewN | apply Kd.R_drew)); exact HO114.out))) (Kd.R_lt (by (with_reducible repeat (first | apply Kd.R_alloc | apply Kd.R_drewN | apply Kd.R_drew)); exact HO117.out))) (below_size (by repeat (first | (with_reducible first | exact HB.out | apply below_alloc | apply pw_below_drewN | apply below_drew1 | refine below_set ?_ GE111.out | refine below_set ?_ GE124.out) | exact HB.out))))
          have n3_ := Aside0.mk (blk_below (g := gb111) (o := .cells #[.int .u16 a0_0, .int .u16 a0_1, .int .u16 a0_2, .int .u16 a0_3, .int .u16 a0_4, .int .u8 a0_5, .int .u8 a0_6, .int .u32 a0_7, .int .u32 a0_8, .bool a0_9] 34 (0, 0)) (by (with_reducible repeat (first | refine blk_drewN ?_ _ | refine blk_drew ?_ | refine blk_alloc ?_ _)); exact BK111.out) hb)
          have n4_ := Aside0.mk (blk_below (g := gb124) (o := .cells #[.int .u32 t118, .int .u8 t119, .int .u8 t120, .int .u16 t121] 28 (0, 0)) (by (with_reducible repeat (first | refine blk_drewN ?_ _ | refine blk_drew ?_ | refine blk_alloc ?_ _)); exact BK124.out) hb)
          have n5_ := Aside0.mk (below_step (by repeat (first | (with_reducible first | exact HB.out | apply below_alloc | apply pw_below_drewN | apply below_drew1 | refine below_set ?_ GE111.out | refine below_set ?_ GE124.out) | exact HB.out)) hb)
          clear HO114
          clear HO117
          clear BK111
          clear BK124
          clear HB
          have HO114 := n0_
          have HO117 := n1_
          have HO127 := n2_
          have BK111 := n3_
          have BK124 := n4_
          have HB := n5_
          clear n0_ n1_ n2_ n3_ n4_ n5_
          (try clear hb)
          (try clear hb2)
          (try clear hk)
          (try clear hi)
          (try clear ho0)
          obtain ⟨Ao32, co32, eo32⟩ := Kd.R_slice HO127.out
          (first | subst eo32 | (injection eo32 with f1_ f2_ f3_; have f4_ := f1_.symm; have f5_ := f3_.symm; clear f1_ f2_ f3_; subst f4_; subst f5_))
          refine hK.out _ _ ⟨(blk_cell BK111.out 0).trans rfl, (blk_cell BK111.out 1).trans rfl, (blk_cell BK111.out 2).trans rfl, (blk_cell BK111.out 3).trans rfl, (blk_cell BK111.out 4).trans rfl, (blk_cell BK111.out 5).trans rfl, (blk_cell BK111.out 6).trans rfl, (blk_cell BK111.out 7).trans rfl, (blk_cell BK111.out 8).trans rfl, (blk_cell BK111.out 9).trans rfl, (blk_cell BK124.out 0).trans rfl, (blk_cell BK124.out 1).trans rfl, (blk_cell BK124.out 2).trans rfl, (blk_cell BK124.out 3).trans rfl⟩ (fun hHeld => ?_)
          clear hK K
          refine norm_ (a' := ?_) ?_ ?_
          rotate_left
          · show Act.put _ (some 23) _ = _
            simp only [Act.put, List.setIfInBounds_toArray, List.set_cons_zero, List.set_cons_succ, i64_w, i32_w]
            rfl
          refine one_ (i := 4) (N := some 24) #[true, true, true, true, true, false, false, false, false, false, false, false, false, false, false, false, false, false, false, false, false, false, false, false, false] rfl rfl (one_of HT_.out (by kernel_rfl)) (by decide) (fun K hK => ?_)
          refine goes_ Tryd.func15 (by kernel_rfl) rfl #[.slice Ao18 t112.length co18, .slice Ao32 t125.length co32] (by rfl) rfl rfl (by (try simp only [List.map_toArray, List.map_cons, List.map_nil]); first | done | rfl | (simp only [List.length_drop, List.length_take]; rfl)) ?_
          with_reducible refine (bytes_Equal.calls _ _ t112 _ _ t125 true _ ?side1 ?side2 ?side3 ?side4 A7.out).mono ?_
          (case side1 => repeat (first | exact (Kd.R_reads' HO114.out).2.2 | (with_reducible refine Kd.C_alloc ?_ _) | (with_reducible refine Kd.C_drewN ?_ _) | (with_reducible refine Kd.C_drew ?_)))
          (case side2 => exact (Kd.R_reads' HO114.out).2.1)
          (case side3 => repeat (first | exact (Kd.R_reads' HO127.out).2.2 | (with_reducible refine Kd.C_alloc ?_ _) | (with_reducible refine Kd.C_drewN ?_ _) | (with_reducible refine Kd.C_drew ?_)))
          (case side4 => exact (Kd.R_reads' HO127.out).2.1)
          rintro e w' ⟨rfl, ⟨nd, rfl⟩⟩
          refine ⟨_, rfl, ?_⟩
          refine hK.out _ _ ⟨(blk_cell BK111.out 0).trans rfl, (blk_cell BK111.out 1).trans rfl, (blk_cell BK111.out 2).trans rfl, (blk_cell BK111.out 3).trans rfl, (blk_cell BK111.out 4).trans rfl, (blk_cell BK111.out 5).trans rfl, (blk_cell BK111.out 6).trans rfl, (blk_cell BK111.out 7).trans rfl, (blk_cell BK111.out 8).trans rfl, (blk_cell BK111.out 9).trans rfl, (blk_cell BK124.out 0).trans rfl, (blk_cell BK124.out 1).trans rfl, (blk_cell BK124.out 2).trans rfl, (blk_cell BK124.out 3).trans rfl⟩ (fun hHeld => ?_)
          clear hK K
          refine norm_ (a' := ?_) ?_ ?_
          rotate_left
          · show Act.put _ (some 24) _ = _
            simp only [Act.put, List.setIfInBounds_toArray, List.set_cons_zero, List.set_cons_succ, i64_w, i32_w]
            rfl
          refine pure_ (i := 5) (N := some 25) (v := ?_) (a' := ?_) #[true, true, true, true, true, true, false, false, false, false, false, false, false, false, false, false, false, false, false, false, false, false, false, false, false] rfl rfl (any_of HT_.out (by kernel_rfl)) (fun _ _ _ h => h) (Or.inl ⟨by rfl, ?_⟩) ?_ ?_
          rotate_left
          · intro w'
            go_simp
            with_reducible rfl
          rotate_left
          · simp only [Act.put, List.setIfInBounds_toArray, List.set_cons_zero, List.set_cons_succ, i64_w, i32_w]
            rfl
          refine pure_ (i := 6) (N := some 26) (v := ?_) (a' := ?_) #[true, true, true, true, true, true, true, false, false, false, false, false, false, false, false, false, false, false, false, false, false, false, false, false, false] rfl rfl (any_of HT_.out (by kernel_rfl)) (fun _ _ _ h => h) (Or.inl ⟨by rfl, ?_⟩) ?_ ?_
          rotate_left
          · intro w'
            go_simp
            with_reducible rfl
          rotate_left
          · simp only [Act.put, List.setIfInBounds_toArray, List.set_cons_zero, List.set_cons_succ, i64_w, i32_w]
            rfl
          refine pure_ (i := 7) (N := some 27) (v := ?_) (a' := ?_) #[true, true, true, true, true, true, true, true, false, false, false, false, false, false, false, false, false, false, false, false, false, false, false, false, false] rfl rfl (any_of HT_.out (by kernel_rfl)) (fun _ _ _ h => h) (Or.inl ⟨by rfl, ?_⟩) ?_ ?_
          rotate_left
          · intro w'
            go_simp
            with_reducible rfl
          rotate_left
          · simp only [Act.put, List.setIfInBounds_toArray, List.set_cons_zero, List.set_cons_succ, i64_w, i32_w]
            rfl
          refine pure_ (i := 8) (N := some 28) (v := ?_) (a' := ?_) #[true, true, true, true, true, true, true, true, true, false, false, false, false, false, false, false, false, false, false, false, false, false, false, false, false] rfl rfl (any_of HT_.out (by kernel_rfl)) (fun _ _ _ h => h) (Or.inl ⟨by rfl, ?_⟩) ?_ ?_
          rotate_left
          · intro w'
            go_simp
            with_reducible rfl
          rotate_left
          · simp only [Act.put, List.setIfInBounds_toArray, List.set_cons_zero, List.set_cons_succ, i64_w, i32_w]
            rfl
          refine pure_ (i := 9) (N := some 29) (v := ?_) (a' := ?_) #[true, true, true, true, true, true, true, true, true, true, false, false, false, false, false, false, false, false, false, false, false, false, false, false, false] rfl rfl (any_of HT_.out (by kernel_rfl)) (fun _ _ _ h => h) (Or.inl ⟨by rfl, ?_⟩) ?_ ?_
          rotate_left
          · intro w'
            go_simp
            with_reducible rfl
          rotate_left
          · simp only [Act.put, List.setIfInBounds_toArray, List.set_cons_zero, List.set_cons_succ, i64_w, i32_w]
            rfl
          refine pure_ (i := 10) (N := some 30) (v := ?_) (a' := ?_) #[true, true, true, true, true, true, true, true, true, true, true, false, false, false, false, false, false, false, false, false, false, false, false, false, false] rfl rfl (any_of HT_.out (by kernel_rfl)) (fun _ _ _ h => h) (Or.inl ⟨by rfl, ?_⟩) ?_ ?_
          rotate_left
          · intro w'
            go_simp
            with_reducible rfl
          rotate_left
          · simp only [Act.put, List.setIfInBounds_toArray, List.set_cons_zero, List.set_cons_succ, i64_w, i32_w]
            rfl
          refine pure_ (i := 11) (N := some 31) (v := ?_) (a' := ?_) #[true, true, true, true, true, true, true, true, true, true, true, true, false, false, false, false, false, false, false, false, false, false, false, false, false] rfl rfl (any_of HT_.out (by kernel_rfl)) (fun _ _ _ h => h) (Or.inl ⟨by rfl, ?_⟩) ?_ ?_
          rotate_left
          · intro w'
            go_simp
            with_reducible rfl
          rotate_left
          · simp only [Act.put, List.setIfInBounds_toArray, List.set_cons_zero, List.set_cons_succ, i64_w, i32_w]
            rfl
          refine pure_ (i := 12) (N := some 32) (v := ?_) (a' := ?_) #[true, true, true, true, true, true, true, true, true, true, true, true, true, false, false, false, false, false, false, false, false, false, false, false, false] rfl rfl (any_of HT_.out (by kernel_rfl)) (fun _ _ _ h => h) (Or.inl ⟨by rfl, ?_⟩) ?_ ?_
          rotate_left
          · intro w'
            go_simp
            with_reducible rfl
          rotate_left
          · simp only [Act.put, List.setIfInBounds_toArray, List.set_cons_zero, List.set_cons_succ, i64_w, i32_w]
            rfl
          refine pure_ (i := 13) (N := some 33) (v := ?_) (a' := ?_) #[true, true, true, true, true, true, true, true, true, true, true, true, true, true, false, false, false, false, false, false, false, false, false, false, false] rfl rfl (any_of HT_.out (by kernel_rfl)) (fun _ _ _ h => h) (Or.inl ⟨by rfl, ?_⟩) ?_ ?_
          rotate_left
          · intro w'
            go_simp
            with_reducible rfl
          rotate_left
          · simp only [Act.put, List.setIfInBounds_toArray, List.set_cons_zero, List.set_cons_succ, i64_w, i32_w]
            rfl
          refine pure_ (i := 17) (N := some 37) (v := ?_) (a' := ?_) #[true, true, true, true, true, true, true, true, true, true, true, true, true, true, false, false, false, true, false, false, false, false, false, false, false] rfl rfl (any_of HT_.out (by kernel_rfl)) (fun _ _ _ h => h) (Or.inl ⟨by rfl, ?_⟩) ?_ ?_
          rotate_left
          · intro w'
            go_simp
            with_reducible rfl
          rotate_left
          · simp only [Act.put, List.setIfInBounds_toArray, List.set_cons_zero, List.set_cons_succ, i64_w, i32_w]
            rfl
          refine take_ (i := 14) (N := some 34) (v := ?_) (a' := ?_) #[true, true, true, true, true, true, true, true, true, true, true, true, true, true, true, false, false, true, false, false, false, false, false, false, false] rfl rfl (take_ofW HT_.out HW_.out (by kernel_rfl)) (fun _ _ _ h => h) (Or.inl ⟨by rfl, ?_⟩) hHeld ?_ ?_
          rotate_left
          · rintro w' ⟨s0, s1, s2, s3, s4, s5, s6, s7, s8, s9, s10, s11, s12, s13⟩
            go_simp
            with_reducible rfl
          rotate_left
          · simp only [Act.put, List.setIfInBounds_toArray, List.set_cons_zero, List.set_cons_succ, i64_w, i32_w]
            rfl
          refine take_ (i := 15) (N := some 35) (v := ?_) (a' := ?_) #[true, true, true, true, true, true, true, true, true, true, true, true, true, true, true, true, false, true, false, false, false, false, false, false, false] rfl rfl (take_ofW HT_.out HW_.out (by kernel_rfl)) (fun _ _ _ h => h) (Or.inl ⟨by rfl, ?_⟩) hHeld ?_ ?_
          rotate_left
          · rintro w' ⟨s0, s1, s2, s3, s4, s5, s6, s7, s8, s9, s10, s11, s12, s13⟩
            go_simp
            with_reducible rfl
          rotate_left
          · simp only [Act.put, List.setIfInBounds_toArray, List.set_cons_zero, List.set_cons_succ, i64_w, i32_w]
            rfl
          refine one_ (i := 16) (N := some 36) #[true, true, true, true, true, true, true, true, true, true, true, true, true, true, true, true, true, true, false, false, false, false, false, false, false] rfl rfl (one_of HT_.out (by kernel_rfl)) (by decide) (fun K hK => ?_)
          refine goes_ Tryd.func17 (by kernel_rfl) rfl #[.agg #[.int .u16 a0_0, .int .u16 a0_1, .int .u16 a0_2, .int .u16 a0_3, .int .u16 a0_4, .int .u8 a0_5, .int .u8 a0_6, .int .u32 a0_7, .int .u32 a0_8, .bool a0_9]] (by rfl) rfl rfl (by (try simp only [List.map_toArray, List.map_cons, List.map_nil]); first | done | rfl | (simp only [List.length_drop, List.length_take]; rfl)) ?_
          with_reducible refine (spec_PacketLong.calls a0_0 a0_1 a0_2 a0_3 a0_4 a0_5 a0_6 a0_7 a0_8 a0_9 t129 _ A11.out).mono ?_
          rintro e w33 ⟨rfl, hb⟩
          refine ⟨_, rfl, ?_⟩
          have n0_ := Aside0.mk (Kd.R_below (by (with_reducible repeat (first | apply Kd.R_alloc | apply Kd.R_drewN | apply Kd.R_drew)); exact HO114.out) hb)
          have n1_ := Aside0.mk (Kd.R_below (by (with_reducible repeat (first | apply Kd.R_alloc | apply Kd.R_drewN | apply Kd.R_drew)); exact HO117.out) hb)
          have n2_ := Aside0.mk (Kd.R_below (by (with_reducible repeat (first | apply Kd.R_alloc | apply Kd.R_drewN | apply Kd.R_drew)); exact HO127.out) hb)
          have n3_ := Aside0.mk (blk_below (g := gb111) (o := .cells #[.int .u16 a0_0, .int .u16 a0_1, .int .u16 a0_2, .int .u16 a0_3, .int .u16 a0_4, .int .u8 a0_5, .int .u8 a0_6, .int .u32 a0_7, .int .u32 a0_8, .bool a0_9] 34 (0, 0)) (by (with_reducible repeat (first | refine blk_drewN ?_ _ | refine blk_drew ?_ | refine blk_alloc ?_ _)); exact BK111.out) hb)
          have n4_ := Aside0.mk (blk_below (g := gb124) (o := .cells #[.int .u32 t118, .int .u8 t119, .int .u8 t120, .int .u16 t121] 28 (0, 0)) (by (with_reducible repeat (first | refine blk_drewN ?_ _ | refine blk_drew ?_ | refine blk_alloc ?_ _)); exact BK124.out) hb)
          have n5_ := Aside0.mk (below_step (by repeat (first | (with_reducible first | exact HB.out | apply below_alloc | apply pw_below_drewN | apply below_drew1 | refine below_set ?_ GE111.out | refine below_set ?_ GE124.out) | exact HB.out)) hb)
          clear HO114
          clear HO117
          clear HO127
          clear BK111
          clear BK124
          clear HB
          have HO114 := n0_
          have HO117 := n1_
          have HO127 := n2_
          have BK111 := n3_
          have BK124 := n4_
          have HB := n5_
          clear n0_ n1_ n2_ n3_ n4_ n5_
          (try clear hb)
          (try clear hb2)
          (try clear hk)
          (try clear hi)
          refine hK.out _ _ ⟨(blk_cell BK111.out 0).trans rfl, (blk_cell BK111.out 1).trans rfl, (blk_cell BK111.out 2).trans rfl, (blk_cell BK111.out 3).trans rfl, (blk_cell BK111.out 4).trans rfl, (blk_cell BK111.out 5).trans rfl, (blk_cell BK111.out 6).trans rfl, (blk_cell BK111.out 7).trans rfl, (blk_cell BK111.out 8).trans rfl, (blk_cell BK111.out 9).trans rfl, (blk_cell BK124.out 0).trans rfl, (blk_cell BK124.out 1).trans rfl, (blk_cell BK124.out 2).trans rfl, (blk_cell BK124.out 3).trans rfl⟩ (fun hHeld => ?_)
          clear hK K
          refine norm_ (a' := ?_) ?_ ?_
          rotate_left
          · show Act.put _ (some 36) _ = _
            simp only [Act.put, List.setIfInBounds_toArray, List.set_cons_zero, List.set_cons_succ, i64_w, i32_w]
            rfl
          refine one_ (i := 18) (N := some 38) #[true, true, true, true, true, true, true, true, true, true, true, true, true, true, true, true, true, true, true, false, false, false, false, false, false] rfl rfl (one_of HT_.out (by kernel_rfl)) (by decide) (fun K hK => ?_)
          refine goes_ Tryd.func16 (by kernel_rfl) rfl #[.bool t129, .slice Ao18 t112.length co18, .int .u16 0] (by rfl) rfl rfl (by (try simp only [List.map_toArray, List.map_cons, List.map_nil]); first | done | rfl | (simp only [List.length_drop, List.length_take]; rfl)) ?_
          with_reducible refine (spec_PacketHeadOf.calls k t129 _ _ t112 0 t130 t131 t132 t133 _ ?side1 ?side2 A12.out).mono ?_
          (case side1 => repeat (first | exact (Kd.R_reads' HO114.out).2.2 | (with_reducible refine Kd.C_alloc ?_ _) | (with_reducible refine Kd.C_drewN ?_ _) | (with_reducible refine Kd.C_drew ?_)))
          (case side2 => exact (Kd.R_reads' HO114.out).2.1)
          rintro e w34 ⟨rfl, hb⟩
          refine ⟨_, rfl, ?_⟩
          have n0_ := Aside0.mk (Kd.R_below (by (with_reducible repeat (first | apply Kd.R_alloc | apply Kd.R_drewN | apply Kd.R_drew)); exact HO114.out) hb)
          have n1_ := Aside0.mk (Kd.R_below (by (with_reducible repeat (first | apply Kd.R_alloc | apply Kd.R_drewN | apply Kd.R_drew)); exact HO117.out) hb)
          have n2_ := Aside0.mk (Kd.R_below (by (with_reducible repeat (first | apply Kd.R_alloc | apply Kd.R_drewN | apply Kd.R_drew)); exact HO127.out) hb)
          have n3_ := Aside0.mk (blk_below (g := gb111) (o := .cells #[.int .u16 a0_0, .int .u16 a0_1, .int .u16 a0_2, .int .u16 a0_3, .int .u16 a0_4, .int .u8 a0_5, .int .u8 a0_6, .int .u32 a0_7, .int .u32 a0_8, .bool a0_9] 34 (0, 0)) (by (with_reducible repeat (first | refine blk_drewN ?_ _ | refine blk_drew ?_ | refine blk_alloc ?_ _)); exact BK111.out) hb)
          have n4_ := Aside0.mk (blk_below (g := gb124) (o := .cells #[.int .u32 t118, .int .u8 t119, .int .u8 t120, .int .u16 t121] 28 (0, 0)) (by (with_reducible repeat (first | refine blk_drewN ?_ _ | refine blk_drew ?_ | refine blk_alloc ?_ _)); exact BK124.out) hb)
          have n5_ := Aside0.mk (below_step (by repeat (first | (with_reducible first | exact HB.out | apply below_alloc | apply pw_below_drewN | apply below_drew1 | refine below_set ?_ GE111.out | refine below_set ?_ GE124.out) | exact HB.out)) hb)
          clear HO114
          clear HO117
          clear HO127
          clear BK111
          clear BK124
          clear HB
          have HO114 := n0_
          have HO117 := n1_
          have HO127 := n2_
          have BK111 := n3_
          have BK124 := n4_
          have HB := n5_
          clear n0_ n1_ n2_ n3_ n4_ n5_
          (try clear hb)
          (try clear hb2)
          (try clear hk)
          (try clear hi)
          refine hK.out _ _ ⟨(blk_cell BK111.out 0).trans rfl, (blk_cell BK111.out 1).trans rfl, (blk_cell BK111.out 2).trans rfl, (blk_cell BK111.out 3).trans rfl, (blk_cell BK111.out 4).trans rfl, (blk_cell BK111.out 5).trans rfl, (blk_cell BK111.out 6).trans rfl, (blk_cell BK111.out 7).trans rfl, (blk_cell BK111.out 8).trans rfl, (blk_cell BK111.out 9).trans rfl, (blk_cell BK124.out 0).trans rfl, (blk_cell BK124.out 1).trans rfl, (blk_cell BK124.out 2).trans rfl, (blk_cell BK124.out 3).trans rfl⟩ (fun hHeld => ?_)
          clear hK K
          refine norm_ (a' := ?_) ?_ ?_
          rotate_left
          · show Act.put _ (some 38) _ = _
            simp only [Act.put, List.setIfInBounds_toArray, List.set_cons_zero, List.set_cons_succ, i64_w, i32_w]
            rfl
          refine pure_ (i := 19) (N := some 39) (v := ?_) (a' := ?_) #[true, true, true, true, true, true, true, true, true, true, true, true, true, true, true, true, true, true, true, true, false, false, false, false, false] rfl rfl (any_of HT_.out (by kernel_rfl)) (fun _ _ _ h => h) (Or.inl ⟨by rfl, ?_⟩) ?_ ?_
          rotate_left
          · intro w'
            go_simp
            with_reducible rfl
          rotate_left
          · simp only [Act.put, List.setIfInBounds_toArray, List.set_cons_zero, List.set_cons_succ, i64_w, i32_w]
            rfl
          refine pure_ (i := 20) (N := some 40) (v := ?_) (a' := ?_) #[true, true, true, true, true, true, true, true, true, true, true, true, true, true, true, true, true, true, true, true, true, false, false, false, false] rfl rfl (any_of HT_.out (by kernel_rfl)) (fun _ _ _ h => h) (Or.inl ⟨by rfl, ?_⟩) ?_ ?_
          rotate_left
          · intro w'
            go_simp
            with_reducible rfl
          rotate_left
          · simp only [Act.put, List.setIfInBounds_toArray, List.set_cons_zero, List.set_cons_succ, i64_w, i32_w]
            rfl
          refine pure_ (i := 21) (N := some 41) (v := ?_) (a' := ?_) #[true, true, true, true, true, true, true, true, true, true, true, true, true, true, true, true, true, true, true, true, true, true, false, false, false] rfl rfl (any_of HT_.out (by kernel_rfl)) (fun _ _ _ h => h) (Or.inl ⟨by rfl, ?_⟩) ?_ ?_
          rotate_left
          · intro w'
            go_simp
            with_reducible rfl
          rotate_left
          · simp only [Act.put, List.setIfInBounds_toArray, List.set_cons_zero, List.set_cons_succ, i64_w, i32_w]
            rfl
          refine one_ (i := 22) (N := some 42) #[true, true, true, true, true, true, true, true, true, true, true, true, true, true, true, true, true, true, true, true, true, true, true, false, false] rfl rfl (one_of HT_.out (by kernel_rfl)) (by decide) (fun K hK => ?_)
          refine goes_ Tryd.func9 (by kernel_rfl) rfl #[] (by rfl) rfl rfl (by (try simp only [List.map_toArray, List.map_cons, List.map_nil]); first | done | rfl | (simp only [List.length_drop, List.length_take]; rfl)) ?_
          with_reducible refine (laws_packetAwake.calls  t134 _ A14.out).mono ?_
          rintro e w35 ⟨rfl, hb⟩
          refine ⟨_, rfl, ?_⟩
          have n0_ := Aside0.mk (Kd.R_below (by (with_reducible repeat (first | apply Kd.R_alloc | apply Kd.R_drewN | apply Kd.R_drew)); exact HO114.out) hb)
          have n1_ := Aside0.mk (Kd.R_below (by (with_reducible repeat (first | apply Kd.R_alloc | apply Kd.R_drewN | apply Kd.R_drew)); exact HO117.out) hb)
          have n2_ := Aside0.mk (Kd.R_below (by (with_reducible repeat (first | apply Kd.R_alloc | apply Kd.R_drewN | apply Kd.R_drew)); exact HO127.out) hb)
          have n3_ := Aside0.mk (blk_below (g := gb111) (o := .cells #[.int .u16 a0_0, .int .u16 a0_1, .int .u16 a0_2, .int .u16 a0_3, .int .u16 a0_4, .int .u8 a0_5, .int .u8 a0_6, .int .u32 a0_7, .int .u32 a0_8, .bool a0_9] 34 (0, 0)) (by (with_reducible repeat (first | refine blk_drewN ?_ _ | refine blk_drew ?_ | refine blk_alloc ?_ _)); exact BK111.out) hb)
          have n4_ := Aside0.mk (blk_below (g := gb124) (o := .cells #[.int .u32 t118, .int .u8 t119, .int .u8 t120, .int .u16 t121] 28 (0, 0)) (by (with_reducible repeat (first | refine blk_drewN ?_ _ | refine blk_drew ?_ | refine blk_alloc ?_ _)); exact BK124.out) hb)
          have n5_ := Aside0.mk (below_step (by repeat (first | (with_reducible first | exact HB.out | apply below_alloc | apply pw_below_drewN | apply below_drew1 | refine below_set ?_ GE111.out | refine below_set ?_ GE124.out) | exact HB.out)) hb)
          clear HO114
          clear HO117
          clear HO127
          clear BK111
          clear BK124
          clear HB
          have HO114 := n0_
          have HO117 := n1_
          have HO127 := n2_
          have BK111 := n3_
          have BK124 := n4_
          have HB := n5_
          clear n0_ n1_ n2_ n3_ n4_ n5_
          (try clear hb)
          (try clear hb2)
          (try clear hk)
          (try clear hi)
          refine hK.out _ _ ⟨(blk_cell BK111.out 0).trans rfl, (blk_cell BK111.out 1).trans rfl, (blk_cell BK111.out 2).trans rfl, (blk_cell BK111.out 3).trans rfl, (blk_cell BK111.out 4).trans rfl, (blk_cell BK111.out 5).trans rfl, (blk_cell BK111.out 6).trans rfl, (blk_cell BK111.out 7).trans rfl, (blk_cell BK111.out 8).trans rfl, (blk_cell BK111.out 9).trans rfl, (blk_cell BK124.out 0).trans rfl, (blk_cell BK124.out 1).trans rfl, (blk_cell BK124.out 2).trans rfl, (blk_cell BK124.out 3).trans rfl⟩ (fun hHeld => ?_)
          clear hK K
          refine norm_ (a' := ?_) ?_ ?_
          rotate_left
          · show Act.put _ (some 42) _ = _
            simp only [Act.put, List.setIfInBounds_toArray, List.set_cons_zero, List.set_cons_succ, i64_w, i32_w]
            rfl
          refine pure_ (i := 23) (N := some 43) (v := ?_) (a' := ?_) #[true, true, true, true, true, true, true, true, true, true, true, true, true, true, true, true, true, true, true, true, true, true, true, true, false] rfl rfl (any_of HT_.out (by kernel_rfl)) (fun _ _ _ h => h) (Or.inl ⟨by rfl, ?_⟩) ?_ ?_
          rotate_left
          · intro w'
            go_simp
            with_reducible rfl
          rotate_left
          · simp only [Act.put, List.setIfInBounds_toArray, List.set_cons_zero, List.set_cons_succ, i64_w, i32_w]
            rfl
          refine pure_ (i := 24) (N := some 4) (v := ?_) (a' := ?_) #[true, true, true, true, true, true, true, true, true, true, true, true, true, true, true, true, true, true, true, true, true, true, true, true, true] rfl rfl (any_of HT_.out (by kernel_rfl)) (fun _ _ _ h => h) (Or.inl ⟨by rfl, ?_⟩) ?_ ?_
          rotate_left
          · intro w'
            go_simp
            with_reducible rfl
          rotate_left
          · simp only [Act.put, List.setIfInBounds_toArray, List.set_cons_zero, List.set_cons_succ, i64_w, i32_w]
            rfl
          refine done_ (done_of HT_.out (by kernel_rfl)) ?_
          try go_wp2
          go_ret
          exact ⟨by first | rfl | (simp [errW_none, errW_some] <;> rfl) | (simp [*, errW_none, errW_some] <;> rfl), by repeat (first | (with_reducible first | exact HB.out | apply below_alloc | apply pw_below_drewN | apply below_drew1 | refine below_set ?_ GE111.out | refine below_set ?_ GE124.out) | exact HB.out)⟩
        · rw [if_neg c13] at H
          exact absurd H (by simp)
      · rw [if_neg c10] at H
        exact absurd H (by simp)
    · replace c9 := Bool.eq_false_iff.mpr c9
      subst c9
      have H1 : (none) = some r := by rw [if_neg (show ¬ (false = true) by decide)] at H; exact H
      clear H
      have H := H1
      clear H1
      exact absurd H (by simp)
  · replace c8 := Bool.eq_false_iff.mpr c8
    subst c8
    have H1 : (none) = some r := by rw [if_neg (show ¬ (false = true) by decide)] at H; exact H
    clear H
    have H := H1
    clear H1
    exact absurd H (by simp)
end Go.Proofs.YtpacjdlgnoiheaaDoor.ZV
