-- Written by a program of this session (wip/xprint.py), which calls the kit's print.
import Derived.Test.YtpacjdlgnoiheaaDoorZU0
import Derived.Test.YtpacjdlgnoiheaaDoorPx
import Derived.Test.YtpacjdlgnoiheaaDoorPw
import Derived.Test.YtpacjdlgnoiheaaDoorPs
namespace Go.Proofs.YtpacjdlgnoiheaaDoor.ZU
open Go.RowKit Go.Proofs.YtpacjdlgnoiheaaDoor.X Go.Proofs.YtpacjdlgnoiheaaDoorW.PrintWords Go.Proofs.YtpacjdlgnoiheaaDoorW.PrintLast Go.Proofs.YtpacjdlgnoiheaaDoorW.PrintMore
attribute [local go_sem] max2_int min2_int max_two min_two max_three min_three max_four min_four   -- for this text's walks alone
set_option linter.unusedVariables false
set_option linter.unusedSimpArgs false

-- GIVEN: function 9 (laws_packetAwake)

-- GIVEN: function 14 (spec_PacketGet)

-- GIVEN: function 20 (impl_ConnectBytes)

/-! ### laws_FnPacketUnits: function 6 -/
def laws_FnPacketUnits.f (k : Nat) (a0_0 : Int) (a0_1 : Int) (a0_2 : Int) (a0_3 : Int) (a0_4 : Int) (a0_5 : Int) (a0_6 : Int) (a0_7 : Int) (a0_8 : Int) (a0_9 : Bool) (a1 : ByteArray) : Option (Bool) := if (a1.size : Int) > 2147483647 then (some true) else (if (a1.size : Int) > 2000 then ((laws_packetAwake.f).bind fun t102 => (some t102)) else ((impl_ConnectBytes.f a0_0 a0_1 a0_2 a0_3 a0_4 a0_5 a0_6 a0_7 a0_8 a0_9 a1).bind fun t103 => (if (t103.length : Int) < 70 then (none) else ((spec_PacketGet.f k t103 58 4).bind fun t106 => ((spec_PacketGet.f k t103 62 4).bind fun t107 => (if t106 = (IntKind.u64.wrap (a0_7)) then (if t107 = (IntKind.u64.wrap (a0_8)) then ((spec_PacketGet.f k t103 14 2).bind fun t108 => (if t108 = (mn t106 65535) then ((spec_PacketGet.f k t103 16 2).bind fun t109 => (if t109 = (mn t107 65535) then ((laws_packetAwake.f).bind fun t110 => (some t110)) else (none))) else (none))) else (none)) else (none)))))))
theorem laws_FnPacketUnits.mono : ∀ a0 a1 a2 a3 a4 a5 a6 a7 a8 a9 a10 k, LeO (laws_FnPacketUnits.f k a0 a1 a2 a3 a4 a5 a6 a7 a8 a9 a10) (laws_FnPacketUnits.f (k + 1) a0 a1 a2 a3 a4 a5 a6 a7 a8 a9 a10) := by
  intro a0 a1 a2 a3 a4 a5 a6 a7 a8 a9 a10 k
  unfold laws_FnPacketUnits.f
  repeat' first
      | (with_reducible exact spec_PacketGet.mono _ _ _ _)
      | (with_reducible exact LeO.refl _)
      | (with_reducible exact LeO.none _)
      | (with_reducible refine LeO.ite ?_ ?_)
      | (with_reducible refine LeO.bind ?_ (fun _ => ?_))
      | exact spec_PacketGet.mono _ _ _ _
      | exact LeO.none _
      | refine LeO.ite ?_ ?_
      | refine LeO.bind ?_ (fun _ => ?_)
set_option maxHeartbeats 8000000 in
set_option maxRecDepth 100000 in
theorem laws_FnPacketUnits.calls (k : Nat) (a0_0 : Int) (a0_1 : Int) (a0_2 : Int) (a0_3 : Int) (a0_4 : Int) (a0_5 : Int) (a0_6 : Int) (a0_7 : Int) (a0_8 : Int) (a0_9 : Bool) (a1 : ByteArray) (r : Bool) (w : World) (h : laws_FnPacketUnits.f k a0_0 a0_1 a0_2 a0_3 a0_4 a0_5 a0_6 a0_7 a0_8 a0_9 a1 = some r) :
    Calls Tryd.prog 6 #[.agg #[.int .u16 a0_0, .int .u16 a0_1, .int .u16 a0_2, .int .u16 a0_3, .int .u16 a0_4, .int .u8 a0_5, .int .u8 a0_6, .int .u32 a0_7, .int .u32 a0_8, .bool a0_9], .string a1] w fun e w' => e = .returned (.bool r) ∧ Below w.heap.size w w' := by
  have hu34 := Tryd.underlying34
  have HB := Aside0.mk (Below.refl w.heap.size w)
  have H : (if (a1.size : Int) > 2147483647 then (some true) else (if (a1.size : Int) > 2000 then ((laws_packetAwake.f).bind fun t102 => (some t102)) else ((impl_ConnectBytes.f a0_0 a0_1 a0_2 a0_3 a0_4 a0_5 a0_6 a0_7 a0_8 a0_9 a1).bind fun t103 => (if (t103.length : Int) < 70 then (none) else ((spec_PacketGet.f k t103 58 4).bind fun t106 => ((spec_PacketGet.f k t103 62 4).bind fun t107 => (if t106 = (IntKind.u64.wrap (a0_7)) then (if t107 = (IntKind.u64.wrap (a0_8)) then ((spec_PacketGet.f k t103 14 2).bind fun t108 => (if t108 = (mn t106 65535) then ((spec_PacketGet.f k t103 16 2).bind fun t109 => (if t109 = (mn t107 65535) then ((laws_packetAwake.f).bind fun t110 => (some t110)) else (none))) else (none))) else (none)) else (none)))))))) = some r := h
  clear h
  by_cases c3 : (a1.size : Int) > 2147483647
  · rw [if_pos c3] at H
    have c3b0 : decide (2147483647 < (a1.size : Int)) = true := decide_eq_true c3
    have c3b1 : decide (2147483647 < a1.size) = true := decide_eq_true (by omega)
    clear c3
    obtain rfl := Option.some.inj H
    go_enter Tryd.func6, Tryd.ntmps6
    go_wp2_with (first | ((with_reducible refine gate_dst (N := 2) rfl ?_); (try (refine gate_guard (by rfl) ?_; dsimp only)); refine box_event ?hg (N := 2) ?hd (cs := #[.int .u16 a0_0, .int .u16 a0_1, .int .u16 a0_2, .int .u16 a0_3, .int .u16 a0_4, .int .u8 a0_5, .int .u8 a0_6, .int .u32 a0_7, .int .u32 a0_8, .bool a0_9]) (t := 34) ?hr ?_; (case hd => rfl); (case hg => rfl); (case hr => first | (go_simp; done) | (go_simp; rfl)); intro gb101 hg w4 hbox hb; have n0_ := Aside0.mk (below_step (by repeat (first | (with_reducible first | exact HB.out | apply below_alloc | apply pw_below_drewN | apply below_drew1) | exact HB.out)) hb); have n1_ := Aside0.mk (hbox); have n2_ := Aside0.mk ((by rw [hg]; exact (below_size (by repeat (first | (with_reducible first | exact HB.out | apply below_alloc | apply pw_below_drewN | apply below_drew1) | exact HB.out))) : w.heap.size ≤ gb101)); have n3_ := Aside0.mk ((by rw [hg]; exact (below_size (by repeat (first | (with_reducible first | exact HB.out | apply below_alloc | apply pw_below_drewN | apply below_drew1) | exact HB.out))) : w.heap.size ≤ gb101)); clear HB; have HB := n0_; have BK101 := n1_; have GW101 := n2_; have GE101 := n3_; clear n0_ n1_ n2_ n3_; clear hb hbox hg))
    go_ret
    exact ⟨by first | rfl | (simp [errW_none, errW_some] <;> rfl) | (simp [*, errW_none, errW_some] <;> rfl), by repeat (first | (with_reducible first | exact HB.out | apply below_alloc | apply pw_below_drewN | apply below_drew1 | refine below_set ?_ GE101.out) | exact HB.out)⟩
  · rw [if_neg c3] at H
    have c3b0 : decide (2147483647 < (a1.size : Int)) = false := decide_eq_false c3
    have c3b1 : decide (2147483647 < a1.size) = false := decide_eq_false (by omega)
    clear c3
    by_cases c5 : (a1.size : Int) > 2000
    · rw [if_pos c5] at H
      have c5b0 : decide (2000 < (a1.size : Int)) = true := decide_eq_true c5
      have c5b1 : decide (2000 < a1.size) = true := decide_eq_true (by omega)
      clear c5
      replace H := Option.bind_eq_some_iff.mp H
      obtain ⟨t102, A60, H⟩ := H
      replace H : (some t102) = some r := H
      have A6 := Aside0.mk A60
      clear A60
      obtain rfl := Option.some.inj H
      go_enter Tryd.func6, Tryd.ntmps6
      go_wp2_with (first | ((with_reducible refine gate_dst (N := 2) rfl ?_); (try (refine gate_guard (by rfl) ?_; dsimp only)); refine box_event ?hg (N := 2) ?hd (cs := #[.int .u16 a0_0, .int .u16 a0_1, .int .u16 a0_2, .int .u16 a0_3, .int .u16 a0_4, .int .u8 a0_5, .int .u8 a0_6, .int .u32 a0_7, .int .u32 a0_8, .bool a0_9]) (t := 34) ?hr ?_; (case hd => rfl); (case hg => rfl); (case hr => first | (go_simp; done) | (go_simp; rfl)); intro gb101 hg w7 hbox hb; have n0_ := Aside0.mk (below_step (by repeat (first | (with_reducible first | exact HB.out | apply below_alloc | apply pw_below_drewN | apply below_drew1) | exact HB.out)) hb); have n1_ := Aside0.mk (hbox); have n2_ := Aside0.mk ((by rw [hg]; exact (below_size (by repeat (first | (with_reducible first | exact HB.out | apply below_alloc | apply pw_below_drewN | apply below_drew1) | exact HB.out))) : w.heap.size ≤ gb101)); have n3_ := Aside0.mk ((by rw [hg]; exact (below_size (by repeat (first | (with_reducible first | exact HB.out | apply below_alloc | apply pw_below_drewN | apply below_drew1) | exact HB.out))) : w.heap.size ≤ gb101)); clear HB; have HB := n0_; have BK101 := n1_; have GW101 := n2_; have GE101 := n3_; clear n0_ n1_ n2_ n3_; clear hb hbox hg) | ((with_reducible refine gate_callee (f := 9) rfl ?_); refine goesL_ (some 14) rfl rfl Tryd.func9 (by kernel_rfl) rfl #[] rfl (by (try simp only [List.map_toArray, List.map_cons, List.map_nil]); first | done | rfl | (simp only [List.length_drop, List.length_take]; rfl)) ?_; (with_reducible refine (laws_packetAwake.calls  t102 _ A6.out).mono ?_); rintro e w8 ⟨rfl, hb⟩; refine ⟨_, rfl, ?_⟩; have n0_ := Aside0.mk (blk_below (g := gb101) (o := .cells #[.int .u16 a0_0, .int .u16 a0_1, .int .u16 a0_2, .int .u16 a0_3, .int .u16 a0_4, .int .u8 a0_5, .int .u8 a0_6, .int .u32 a0_7, .int .u32 a0_8, .bool a0_9] 34 (0, 0)) (by (with_reducible repeat (first | refine blk_drewN ?_ _ | refine blk_drew ?_ | refine blk_alloc ?_ _)); exact BK101.out) hb); have n1_ := Aside0.mk (below_step (by repeat (first | (with_reducible first | exact HB.out | apply below_alloc | apply pw_below_drewN | apply below_drew1 | refine below_set ?_ GE101.out) | exact HB.out)) hb); clear BK101; clear HB; have BK101 := n0_; have HB := n1_; clear n0_ n1_; (try clear hb); (try clear hb2); (try clear hk); (try clear hi)))
      go_ret
      exact ⟨by first | rfl | (simp [errW_none, errW_some] <;> rfl) | (simp [*, errW_none, errW_some] <;> rfl), by repeat (first | (with_reducible first | exact HB.out | apply below_alloc | apply pw_below_drewN | apply below_drew1 | refine below_set ?_ GE101.out) | exact HB.out)⟩
    · rw [if_neg c5] at H
      have c5b0 : decide (2000 < (a1.size : Int)) = false := decide_eq_false c5
      have c5b1 : decide (2000 < a1.size) = false := decide_eq_false (by omega)
      clear c5
      replace H := Option.bind_eq_some_iff.mp H
      obtain ⟨t103, A90, H⟩ := H
      replace H : (if (t103.length : Int) < 70 then (none) else ((spec_PacketGet.f k t103 58 4).bind fun t106 => ((spec_PacketGet.f k t103 62 4).bind fun t107 => (if t106 = (IntKind.u64.wrap (a0_7)) then (if t107 = (IntKind.u64.wrap (a0_8)) then ((spec_PacketGet.f k t103 14 2).bind fun t108 => (if t108 = (mn t106 65535) then ((spec_PacketGet.f k t103 16 2).bind fun t109 => (if t109 = (mn t107 65535) then ((laws_packetAwake.f).bind fun t110 => (some t110)) else (none))) else (none))) else (none)) else (none))))) = some r := H
      have A9 := Aside0.mk A90
      clear A90
      by_cases c10 : (t103.length : Int) < 70
      · rw [if_pos c10] at H
        exact absurd H (by simp)
      · rw [if_neg c10] at H
        have c10b0 : decide ((t103.length : Int) < 70) = false := decide_eq_false c10
        have c10b1 : decide (t103.length < 70) = false := decide_eq_false (by omega)
        clear c10
        replace H := Option.bind_eq_some_iff.mp H
        obtain ⟨t106, A150, H⟩ := H
        replace H : ((spec_PacketGet.f k t103 62 4).bind fun t107 => (if t106 = (IntKind.u64.wrap (a0_7)) then (if t107 = (IntKind.u64.wrap (a0_8)) then ((spec_PacketGet.f k t103 14 2).bind fun t108 => (if t108 = (mn t106 65535) then ((spec_PacketGet.f k t103 16 2).bind fun t109 => (if t109 = (mn t107 65535) then ((laws_packetAwake.f).bind fun t110 => (some t110)) else (none))) else (none))) else (none)) else (none))) = some r := H
        have A15 := Aside0.mk A150
        clear A150
        replace H := Option.bind_eq_some_iff.mp H
        obtain ⟨t107, A160, H⟩ := H
        replace H : (if t106 = (IntKind.u64.wrap (a0_7)) then (if t107 = (IntKind.u64.wrap (a0_8)) then ((spec_PacketGet.f k t103 14 2).bind fun t108 => (if t108 = (mn t106 65535) then ((spec_PacketGet.f k t103 16 2).bind fun t109 => (if t109 = (mn t107 65535) then ((laws_packetAwake.f).bind fun t110 => (some t110)) else (none))) else (none))) else (none)) else (none)) = some r := H
        have A16 := Aside0.mk A160
        clear A160
        by_cases c17 : t106 = (IntKind.u64.wrap (a0_7))
        · rw [if_pos c17] at H
          have c17b0 : (t106 == (IntKind.u64.wrap (a0_7))) = true := beq_iff_eq.mpr c17
          have c17b1 : (t106 != (IntKind.u64.wrap (a0_7))) = false := bne_eq_false_iff_eq.mpr c17
          clear c17
          by_cases c18 : t107 = (IntKind.u64.wrap (a0_8))
          · rw [if_pos c18] at H
            have c18b0 : (t107 == (IntKind.u64.wrap (a0_8))) = true := beq_iff_eq.mpr c18
            have c18b1 : (t107 != (IntKind.u64.wrap (a0_8))) = false := bne_eq_false_iff_eq.mpr c18
            clear c18
            replace H := Option.bind_eq_some_iff.mp H
            obtain ⟨t108, A190, H⟩ := H
            replace H : (if t108 = (mn t106 65535) then ((spec_PacketGet.f k t103 16 2).bind fun t109 => (if t109 = (mn t107 65535) then ((laws_packetAwake.f).bind fun t110 => (some t110)) else (none))) else (none)) = some r := H
            have A19 := Aside0.mk A190
            clear A190
            obtain ⟨ji20, hji20⟩ : ∃ j_ : Int, (mn t106 65535) = j_ := ⟨_, rfl⟩
            replace H : (if t108 = (ji20) then ((spec_PacketGet.f k t103 16 2).bind fun t109 => (if t109 = (mn t107 65535) then ((laws_packetAwake.f).bind fun t110 => (some t110)) else (none))) else (none)) = some r := by first | (rw [hji20] at H; exact H) | (simp only [hji20] at H ⊢; exact H)
            (try rw [hji20] at A9)
            (try rw [hji20] at A15)
            (try rw [hji20] at A16)
            (try rw [hji20] at A19)
            (try (have hji20h : ji20 ≤ 65535 := by (rw [← hji20]; unfold mn; (repeat' split) <;> omega)))
            (try (have hji20g : ji20 ≤ 64 := by omega))
            have hji20_ : (if 65535 < t106 then 65535 else t106) = ji20 := hji20
            by_cases c21 : t108 = (ji20)
            · rw [if_pos c21] at H
              have c21b0 : (t108 == (ji20)) = true := beq_iff_eq.mpr c21
              have c21b1 : (t108 != (ji20)) = false := bne_eq_false_iff_eq.mpr c21
              clear c21
              replace H := Option.bind_eq_some_iff.mp H
              obtain ⟨t109, A220, H⟩ := H
              replace H : (if t109 = (mn t107 65535) then ((laws_packetAwake.f).bind fun t110 => (some t110)) else (none)) = some r := H
              have A22 := Aside0.mk A220
              clear A220
              obtain ⟨ji23, hji23⟩ : ∃ j_ : Int, (mn t107 65535) = j_ := ⟨_, rfl⟩
              replace H : (if t109 = (ji23) then ((laws_packetAwake.f).bind fun t110 => (some t110)) else (none)) = some r := by first | (rw [hji23] at H; exact H) | (simp only [hji23] at H ⊢; exact H)
              (try rw [hji23] at A9)
              (try rw [hji23] at A15)
              (try rw [hji23] at A16)
              (try rw [hji23] at A19)
              (try rw [hji23] at A22)
              (try (have hji23h : ji23 ≤ 65535 := by (rw [← hji23]; unfold mn; (repeat' split) <;> omega)))
              (try (have hji23g : ji23 ≤ 64 := by omega))
              have hji23_ : (if 65535 < t107 then 65535 else t107) = ji23 := hji23
              by_cases c24 : t109 = (ji23)
              · rw [if_pos c24] at H
                have c24b0 : (t109 == (ji23)) = true := beq_iff_eq.mpr c24
                have c24b1 : (t109 != (ji23)) = false := bne_eq_false_iff_eq.mpr c24
                clear c24
                replace H := Option.bind_eq_some_iff.mp H
                obtain ⟨t110, A250, H⟩ := H
                replace H : (some t110) = some r := H
                have A25 := Aside0.mk A250
                clear A250
                obtain rfl := Option.some.inj H
                go_enter Tryd.func6, Tryd.ntmps6
                go_wp2_with (first | ((with_reducible refine gate_dst (N := 2) rfl ?_); (try (refine gate_guard (by rfl) ?_; dsimp only)); refine box_event ?hg (N := 2) ?hd (cs := #[.int .u16 a0_0, .int .u16 a0_1, .int .u16 a0_2, .int .u16 a0_3, .int .u16 a0_4, .int .u8 a0_5, .int .u8 a0_6, .int .u32 a0_7, .int .u32 a0_8, .bool a0_9]) (t := 34) ?hr ?_; (case hd => rfl); (case hg => rfl); (case hr => first | (go_simp; done) | (go_simp; rfl)); intro gb101 hg w26 hbox hb; have n0_ := Aside0.mk (below_step (by repeat (first | (with_reducible first | exact HB.out | apply below_alloc | apply pw_below_drewN | apply below_drew1) | exact HB.out)) hb); have n1_ := Aside0.mk (hbox); have n2_ := Aside0.mk ((by rw [hg]; exact (below_size (by repeat (first | (with_reducible first | exact HB.out | apply below_alloc | apply pw_below_drewN | apply below_drew1) | exact HB.out))) : w.heap.size ≤ gb101)); have n3_ := Aside0.mk ((by rw [hg]; exact (below_size (by repeat (first | (with_reducible first | exact HB.out | apply below_alloc | apply pw_below_drewN | apply below_drew1) | exact HB.out))) : w.heap.size ≤ gb101)); clear HB; have HB := n0_; have BK101 := n1_; have GW101 := n2_; have GE101 := n3_; clear n0_ n1_ n2_ n3_; clear hb hbox hg; have hcz27_0 : w26.cell? ⟨gb101, 0, none⟩ = some (.int .u16 a0_0) := (blk_cell BK101.out 0).trans rfl; have hcz27_1 : w26.cell? ⟨gb101, 1, none⟩ = some (.int .u16 a0_1) := (blk_cell BK101.out 1).trans rfl; have hcz27_2 : w26.cell? ⟨gb101, 2, none⟩ = some (.int .u16 a0_2) := (blk_cell BK101.out 2).trans rfl; have hcz27_3 : w26.cell? ⟨gb101, 3, none⟩ = some (.int .u16 a0_3) := (blk_cell BK101.out 3).trans rfl; have hcz27_4 : w26.cell? ⟨gb101, 4, none⟩ = some (.int .u16 a0_4) := (blk_cell BK101.out 4).trans rfl; have hcz27_5 : w26.cell? ⟨gb101, 5, none⟩ = some (.int .u8 a0_5) := (blk_cell BK101.out 5).trans rfl; have hcz27_6 : w26.cell? ⟨gb101, 6, none⟩ = some (.int .u8 a0_6) := (blk_cell BK101.out 6).trans rfl; have hcz27_7 : w26.cell? ⟨gb101, 7, none⟩ = some (.int .u32 a0_7) := (blk_cell BK101.out 7).trans rfl; have hcz27_8 : w26.cell? ⟨gb101, 8, none⟩ = some (.int .u32 a0_8) := (blk_cell BK101.out 8).trans rfl; have hcz27_9 : w26.cell? ⟨gb101, 9, none⟩ = some (.bool a0_9) := (blk_cell BK101.out 9).trans rfl; have hfz27_0 := blk_frozen BK101.out 0; have hfz27_1 := blk_frozen BK101.out 1; have hfz27_2 := blk_frozen BK101.out 2; have hfz27_3 := blk_frozen BK101.out 3; have hfz27_4 := blk_frozen BK101.out 4; have hfz27_5 := blk_frozen BK101.out 5; have hfz27_6 := blk_frozen BK101.out 6; have hfz27_7 := blk_frozen BK101.out 7; have hfz27_8 := blk_frozen BK101.out 8; have hfz27_9 := blk_frozen BK101.out 9) | ((with_reducible refine gate_callee (f := 20) rfl ?_); refine goesL_ (some 17) rfl rfl Tryd.func20 (by kernel_rfl) rfl #[.agg #[.int .u16 a0_0, .int .u16 a0_1, .int .u16 a0_2, .int .u16 a0_3, .int .u16 a0_4, .int .u8 a0_5, .int .u8 a0_6, .int .u32 a0_7, .int .u32 a0_8, .bool a0_9], .string a1] rfl (by (try simp only [List.map_toArray, List.map_cons, List.map_nil]); first | done | rfl | (simp only [List.length_drop, List.length_take]; rfl)) ?_; (with_reducible refine (impl_ConnectBytes.calls a0_0 a0_1 a0_2 a0_3 a0_4 a0_5 a0_6 a0_7 a0_8 a0_9 a1 t103 _ A9.out).mono ?_); rintro e w28 ⟨v104, rfl, ho0, hb⟩; refine ⟨_, rfl, ?_⟩; have n0_ := Aside0.mk (Kd.R_lower ho0 (below_size (by repeat (first | (with_reducible first | exact HB.out | apply below_alloc | apply pw_below_drewN | apply below_drew1 | refine below_set ?_ GE101.out) | exact HB.out)))); have n1_ := Aside0.mk (blk_below (g := gb101) (o := .cells #[.int .u16 a0_0, .int .u16 a0_1, .int .u16 a0_2, .int .u16 a0_3, .int .u16 a0_4, .int .u8 a0_5, .int .u8 a0_6, .int .u32 a0_7, .int .u32 a0_8, .bool a0_9] 34 (0, 0)) (by (with_reducible repeat (first | refine blk_drewN ?_ _ | refine blk_drew ?_ | refine blk_alloc ?_ _)); exact BK101.out) hb); have n2_ := Aside0.mk (below_step (by repeat (first | (with_reducible first | exact HB.out | apply below_alloc | apply pw_below_drewN | apply below_drew1 | refine below_set ?_ GE101.out) | exact HB.out)) hb); clear BK101; clear HB; have HO105 := n0_; have BK101 := n1_; have HB := n2_; clear n0_ n1_ n2_; (try clear hb); (try clear hb2); (try clear hk); (try clear hi); (try clear ho0); obtain ⟨Ao29, co29, eo29⟩ := Kd.R_slice HO105.out; subst eo29) | ((with_reducible refine gate_callee (f := 14) rfl ?_); refine goesL_ (some 22) rfl rfl Tryd.func14 (by kernel_rfl) rfl #[.slice Ao29 t103.length co29, .int .i64 58, .int .i64 4] rfl (by (try simp only [List.map_toArray, List.map_cons, List.map_nil]); first | done | rfl | (simp only [List.length_drop, List.length_take]; rfl)) ?_; (with_reducible refine (spec_PacketGet.calls k _ _ t103 58 4 t106 _ ?side1 ?side2 A15.out).mono ?_); (case side1 => repeat (first | exact (Kd.R_reads' HO105.out).2.2 | (with_reducible refine Kd.C_alloc ?_ _) | (with_reducible refine Kd.C_drewN ?_ _) | (with_reducible refine Kd.C_drew ?_))); (case side2 => exact (Kd.R_reads' HO105.out).2.1); rintro e w' ⟨rfl, ⟨nd, rfl⟩⟩; refine ⟨_, rfl, ?_⟩) | ((with_reducible refine gate_callee (f := 14) rfl ?_); refine goesL_ (some 24) rfl rfl Tryd.func14 (by kernel_rfl) rfl #[.slice Ao29 t103.length co29, .int .i64 62, .int .i64 4] rfl (by (try simp only [List.map_toArray, List.map_cons, List.map_nil]); first | done | rfl | (simp only [List.length_drop, List.length_take]; rfl)) ?_; (with_reducible refine (spec_PacketGet.calls k _ _ t103 62 4 t107 _ ?side1 ?side2 A16.out).mono ?_); (case side1 => repeat (first | exact (Kd.R_reads' HO105.out).2.2 | (with_reducible refine Kd.C_alloc ?_ _) | (with_reducible refine Kd.C_drewN ?_ _) | (with_reducible refine Kd.C_drew ?_))); (case side2 => exact (Kd.R_reads' HO105.out).2.1); rintro e w' ⟨rfl, ⟨nd, rfl⟩⟩; refine ⟨_, rfl, ?_⟩; have hcz30_0 : w28.cell? ⟨gb101, 0, none⟩ = some (.int .u16 a0_0) := (blk_cell BK101.out 0).trans rfl; have hcz30_1 : w28.cell? ⟨gb101, 1, none⟩ = some (.int .u16 a0_1) := (blk_cell BK101.out 1).trans rfl; have hcz30_2 : w28.cell? ⟨gb101, 2, none⟩ = some (.int .u16 a0_2) := (blk_cell BK101.out 2).trans rfl; have hcz30_3 : w28.cell? ⟨gb101, 3, none⟩ = some (.int .u16 a0_3) := (blk_cell BK101.out 3).trans rfl; have hcz30_4 : w28.cell? ⟨gb101, 4, none⟩ = some (.int .u16 a0_4) := (blk_cell BK101.out 4).trans rfl; have hcz30_5 : w28.cell? ⟨gb101, 5, none⟩ = some (.int .u8 a0_5) := (blk_cell BK101.out 5).trans rfl; have hcz30_6 : w28.cell? ⟨gb101, 6, none⟩ = some (.int .u8 a0_6) := (blk_cell BK101.out 6).trans rfl; have hcz30_7 : w28.cell? ⟨gb101, 7, none⟩ = some (.int .u32 a0_7) := (blk_cell BK101.out 7).trans rfl; have hcz30_8 : w28.cell? ⟨gb101, 8, none⟩ = some (.int .u32 a0_8) := (blk_cell BK101.out 8).trans rfl; have hcz30_9 : w28.cell? ⟨gb101, 9, none⟩ = some (.bool a0_9) := (blk_cell BK101.out 9).trans rfl; have hfz30_0 := blk_frozen BK101.out 0; have hfz30_1 := blk_frozen BK101.out 1; have hfz30_2 := blk_frozen BK101.out 2; have hfz30_3 := blk_frozen BK101.out 3; have hfz30_4 := blk_frozen BK101.out 4; have hfz30_5 := blk_frozen BK101.out 5; have hfz30_6 := blk_frozen BK101.out 6; have hfz30_7 := blk_frozen BK101.out 7; have hfz30_8 := blk_frozen BK101.out 8; have hfz30_9 := blk_frozen BK101.out 9) | (go_at_call 14; (with_reducible refine (spec_PacketGet.calls k _ _ t103 14 2 t108 _ ?side1 ?side2 A19.out).mono ?_); (case side1 => repeat (first | exact (Kd.R_reads' HO105.out).2.2 | (with_reducible refine Kd.C_alloc ?_ _) | (with_reducible refine Kd.C_drewN ?_ _) | (with_reducible refine Kd.C_drew ?_))); (case side2 => exact (Kd.R_reads' HO105.out).2.1); rintro e w' ⟨rfl, ⟨nd, rfl⟩⟩) | (go_at_call 14; (with_reducible refine (spec_PacketGet.calls k _ _ t103 16 2 t109 _ ?side1 ?side2 A22.out).mono ?_); (case side1 => repeat (first | exact (Kd.R_reads' HO105.out).2.2 | (with_reducible refine Kd.C_alloc ?_ _) | (with_reducible refine Kd.C_drewN ?_ _) | (with_reducible refine Kd.C_drew ?_))); (case side2 => exact (Kd.R_reads' HO105.out).2.1); rintro e w' ⟨rfl, ⟨nd, rfl⟩⟩) | (go_at_call 9; (with_reducible refine (laws_packetAwake.calls  t110 _ A25.out).mono ?_); rintro e w31 ⟨rfl, hb⟩; have n0_ := Aside0.mk (Kd.R_below (by (with_reducible repeat (first | apply Kd.R_alloc | apply Kd.R_drewN | apply Kd.R_drew)); exact HO105.out) hb); have n1_ := Aside0.mk (blk_below (g := gb101) (o := .cells #[.int .u16 a0_0, .int .u16 a0_1, .int .u16 a0_2, .int .u16 a0_3, .int .u16 a0_4, .int .u8 a0_5, .int .u8 a0_6, .int .u32 a0_7, .int .u32 a0_8, .bool a0_9] 34 (0, 0)) (by (with_reducible repeat (first | refine blk_drewN ?_ _ | refine blk_drew ?_ | refine blk_alloc ?_ _)); exact BK101.out) hb); have n2_ := Aside0.mk (below_step (by repeat (first | (with_reducible first | exact HB.out | apply below_alloc | apply pw_below_drewN | apply below_drew1 | refine below_set ?_ GE101.out) | exact HB.out)) hb); clear HO105; clear BK101; clear HB; have HO105 := n0_; have BK101 := n1_; have HB := n2_; clear n0_ n1_ n2_; (try clear hb); (try clear hb2); (try clear hk); (try clear hi)))
                go_ret
                exact ⟨by first | rfl | (simp [errW_none, errW_some] <;> rfl) | (simp only [← hji20, ← hji23]; first | rfl | (simp [errW_none, errW_some] <;> rfl)) | (simp [*, errW_none, errW_some] <;> rfl), by repeat (first | (with_reducible first | exact HB.out | apply below_alloc | apply pw_below_drewN | apply below_drew1 | refine below_set ?_ GE101.out) | exact HB.out)⟩
              · rw [if_neg c24] at H
                exact absurd H (by simp)
            · rw [if_neg c21] at H
              exact absurd H (by simp)
          · rw [if_neg c18] at H
            exact absurd H (by simp)
        · rw [if_neg c17] at H
          exact absurd H (by simp)
end Go.Proofs.YtpacjdlgnoiheaaDoor.ZU
