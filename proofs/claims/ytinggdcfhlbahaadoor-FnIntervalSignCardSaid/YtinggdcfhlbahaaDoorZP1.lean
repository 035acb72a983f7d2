-- Written by a program of this session (wip/xprint.py), which calls the kit's print.
import Derived.Test.YtinggdcfhlbahaaDoorZP0
import Derived.Test.YtinggdcfhlbahaaDoorTab
namespace Go.Proofs.YtinggdcfhlbahaaDoor.ZP
open Go.RowKit Go.Proofs.YtinggdcfhlbahaaDoor.X Go.Proofs.YtinggdcfhlbahaaDoorW.PrintWords Go.Proofs.YtinggdcfhlbahaaDoorW.PrintLast Go.Proofs.YtinggdcfhlbahaaDoorW.PrintMore
attribute [local go_sem] max2_int min2_int max_two min_two max_three min_three max_four min_four   -- for this text's walks alone
set_option linter.unusedVariables false
set_option linter.unusedSimpArgs false

/-! ### laws_intervalRight: function 5 -/
def laws_intervalRight.f (a0_0 : Bool) (a0_1 : Int) (a0_2 : Int) (a0_3 : Int) (a0_4 : Int) (a0_5 : Int) (a0_6 : Int) (a0_7 : Int) : Option (Bool) := if a0_1 ≥ 0 then (if a0_1 < 1000000000 then (if a0_2 ≥ 0 then (if a0_2 < 24 then (if a0_3 ≥ 0 then (if a0_3 < 60 then (if a0_4 ≥ 0 then (if a0_4 < 60 then (if a0_5 ≥ 0 then (if a0_5 < 1000000000 then (if a0_0 = true then (some (decide (a0_1 > 0))) else (some true)) else (some false)) else (some false)) else (some false)) else (some false)) else (some false)) else (some false)) else (some false)) else (some false)) else (some false)) else (some false)
set_option maxHeartbeats 8000000 in
set_option maxRecDepth 100000 in
theorem laws_intervalRight.calls (a0_0 : Bool) (a0_1 : Int) (a0_2 : Int) (a0_3 : Int) (a0_4 : Int) (a0_5 : Int) (a0_6 : Int) (a0_7 : Int) (r : Bool) (w : World) (h : laws_intervalRight.f a0_0 a0_1 a0_2 a0_3 a0_4 a0_5 a0_6 a0_7 = some r) :
    Calls Tryd.prog 5 #[.agg #[.bool a0_0, .int .i64 a0_1, .int .i64 a0_2, .int .i64 a0_3, .int .i64 a0_4, .int .i64 a0_5, .int .i64 a0_6, .int .i64 a0_7]] w fun e w' => e = .returned (.bool r) ∧ Below w.heap.size w w' := by
  have hu23 := Tryd.underlying23
  have HB := Aside0.mk (Below.refl w.heap.size w)
  have H : (if a0_1 ≥ 0 then (if a0_1 < 1000000000 then (if a0_2 ≥ 0 then (if a0_2 < 24 then (if a0_3 ≥ 0 then (if a0_3 < 60 then (if a0_4 ≥ 0 then (if a0_4 < 60 then (if a0_5 ≥ 0 then (if a0_5 < 1000000000 then (if a0_0 = true then (some (decide (a0_1 > 0))) else (some true)) else (some false)) else (some false)) else (some false)) else (some false)) else (some false)) else (some false)) else (some false)) else (some false)) else (some false)) else (some false)) = some r := h
  clear h
  by_cases c2 : a0_1 ≥ 0
  · rw [if_pos c2] at H
    have c2b0 : decide (0 ≤ a0_1) = true := decide_eq_true c2
    clear c2
    by_cases c3 : a0_1 < 1000000000
    · rw [if_pos c3] at H
      have c3b0 : decide (a0_1 < 1000000000) = true := decide_eq_true c3
      clear c3
      by_cases c4 : a0_2 ≥ 0
      · rw [if_pos c4] at H
        have c4b0 : decide (0 ≤ a0_2) = true := decide_eq_true c4
        clear c4
        by_cases c5 : a0_2 < 24
        · rw [if_pos c5] at H
          have c5b0 : decide (a0_2 < 24) = true := decide_eq_true c5
          clear c5
          by_cases c6 : a0_3 ≥ 0
          · rw [if_pos c6] at H
            have c6b0 : decide (0 ≤ a0_3) = true := decide_eq_true c6
            clear c6
            by_cases c7 : a0_3 < 60
            · rw [if_pos c7] at H
              have c7b0 : decide (a0_3 < 60) = true := decide_eq_true c7
              clear c7
              by_cases c8 : a0_4 ≥ 0
              · rw [if_pos c8] at H
                have c8b0 : decide (0 ≤ a0_4) = true := decide_eq_true c8
                clear c8
                by_cases c9 : a0_4 < 60
                · rw [if_pos c9] at H
                  have c9b0 : decide (a0_4 < 60) = true := decide_eq_true c9
                  clear c9
                  by_cases c10 : a0_5 ≥ 0
                  · rw [if_pos c10] at H
                    have c10b0 : decide (0 ≤ a0_5) = true := decide_eq_true c10
                    clear c10
                    by_cases c11 : a0_5 < 1000000000
                    · rw [if_pos c11] at H
                      have c11b0 : decide (a0_5 < 1000000000) = true := decide_eq_true c11
                      clear c11
                      by_cases c12 : a0_0 = true
                      · subst c12
                        have H1 : (some (decide (a0_1 > 0))) = some r := by rw [if_pos rfl] at H; exact H
                        clear H
                        have H := H1
                        clear H1
                        obtain rfl := Option.some.inj H
                        go_enter Tryd.func5, Tryd.ntmps5
                        go_wp2_with (first | ((with_reducible refine gate_dst (N := 1) rfl ?_); refine box_event ?hg (N := 1) ?hd (cs := #[.bool true, .int .i64 a0_1, .int .i64 a0_2, .int .i64 a0_3, .int .i64 a0_4, .int .i64 a0_5, .int .i64 a0_6, .int .i64 a0_7]) (t := 23) ?hr ?_; (case hd => rfl); (case hg => rfl); (case hr => first | (go_simp; done) | (go_simp; rfl)); intro gb101 hg w13 hbox hb; have n0_ := Aside0.mk (below_step (by repeat (first | (with_reducible first | exact HB.out | apply below_alloc | apply pw_below_drewN | apply below_drew1) | exact HB.out)) hb); have n1_ := Aside0.mk (hbox); have n2_ := Aside0.mk ((by rw [hg]; exact (below_size (by repeat (first | (with_reducible first | exact HB.out | apply below_alloc | apply pw_below_drewN | apply below_drew1) | exact HB.out))) : w.heap.size ≤ gb101)); have n3_ := Aside0.mk ((by rw [hg]; exact (below_size (by repeat (first | (with_reducible first | exact HB.out | apply below_alloc | apply pw_below_drewN | apply below_drew1) | exact HB.out))) : w.heap.size ≤ gb101)); clear HB; have HB := n0_; have BK101 := n1_; have GW101 := n2_; have GE101 := n3_; clear n0_ n1_ n2_ n3_; clear hb hbox hg; have hcz14_0 : w13.cell? ⟨gb101, 0, none⟩ = some (.bool true) := (blk_cell BK101.out 0).trans rfl; have hcz14_1 : w13.cell? ⟨gb101, 1, none⟩ = some (.int .i64 a0_1) := (blk_cell BK101.out 1).trans rfl; have hcz14_2 : w13.cell? ⟨gb101, 2, none⟩ = some (.int .i64 a0_2) := (blk_cell BK101.out 2).trans rfl; have hcz14_3 : w13.cell? ⟨gb101, 3, none⟩ = some (.int .i64 a0_3) := (blk_cell BK101.out 3).trans rfl; have hcz14_4 : w13.cell? ⟨gb101, 4, none⟩ = some (.int .i64 a0_4) := (blk_cell BK101.out 4).trans rfl; have hcz14_5 : w13.cell? ⟨gb101, 5, none⟩ = some (.int .i64 a0_5) := (blk_cell BK101.out 5).trans rfl; have hcz14_6 : w13.cell? ⟨gb101, 6, none⟩ = some (.int .i64 a0_6) := (blk_cell BK101.out 6).trans rfl; have hcz14_7 : w13.cell? ⟨gb101, 7, none⟩ = some (.int .i64 a0_7) := (blk_cell BK101.out 7).trans rfl; have hfz14_0 := blk_frozen BK101.out 0; have hfz14_1 := blk_frozen BK101.out 1; have hfz14_2 := blk_frozen BK101.out 2; have hfz14_3 := blk_frozen BK101.out 3; have hfz14_4 := blk_frozen BK101.out 4; have hfz14_5 := blk_frozen BK101.out 5; have hfz14_6 := blk_frozen BK101.out 6; have hfz14_7 := blk_frozen BK101.out 7))
                        go_ret
                        exact ⟨by first | rfl | (simp [errW_none, errW_some] <;> rfl) | (simp [*, errW_none, errW_some] <;> rfl), by repeat (first | (with_reducible first | exact HB.out | apply below_alloc | apply pw_below_drewN | apply below_drew1 | refine below_set ?_ GE101.out) | exact HB.out)⟩
                      · replace c12 := Bool.eq_false_iff.mpr c12
                        subst c12
                        have H1 : (some true) = some r := by rw [if_neg (show ¬ (false = true) by decide)] at H; exact H
                        clear H
                        have H := H1
                        clear H1
                        obtain rfl := Option.some.inj H
                        go_enter Tryd.func5, Tryd.ntmps5
                        go_wp2_with (first | ((with_reducible refine gate_dst (N := 1) rfl ?_); refine box_event ?hg (N := 1) ?hd (cs := #[.bool false, .int .i64 a0_1, .int .i64 a0_2, .int .i64 a0_3, .int .i64 a0_4, .int .i64 a0_5, .int .i64 a0_6, .int .i64 a0_7]) (t := 23) ?hr ?_; (case hd => rfl); (case hg => rfl); (case hr => first | (go_simp; done) | (go_simp; rfl)); intro gb101 hg w15 hbox hb; have n0_ := Aside0.mk (below_step (by repeat (first | (with_reducible first | exact HB.out | apply below_alloc | apply pw_below_drewN | apply below_drew1) | exact HB.out)) hb); have n1_ := Aside0.mk (hbox); have n2_ := Aside0.mk ((by rw [hg]; exact (below_size (by repeat (first | (with_reducible first | exact HB.out | apply below_alloc | apply pw_below_drewN | apply below_drew1) | exact HB.out))) : w.heap.size ≤ gb101)); have n3_ := Aside0.mk ((by rw [hg]; exact (below_size (by repeat (first | (with_reducible first | exact HB.out | apply below_alloc | apply pw_below_drewN | apply below_drew1) | exact HB.out))) : w.heap.size ≤ gb101)); clear HB; have HB := n0_; have BK101 := n1_; have GW101 := n2_; have GE101 := n3_; clear n0_ n1_ n2_ n3_; clear hb hbox hg; have hcz16_0 : w15.cell? ⟨gb101, 0, none⟩ = some (.bool false) := (blk_cell BK101.out 0).trans rfl; have hcz16_1 : w15.cell? ⟨gb101, 1, none⟩ = some (.int .i64 a0_1) := (blk_cell BK101.out 1).trans rfl; have hcz16_2 : w15.cell? ⟨gb101, 2, none⟩ = some (.int .i64 a0_2) := (blk_cell BK101.out 2).trans rfl; have hcz16_3 : w15.cell? ⟨gb101, 3, none⟩ = some (.int .i64 a0_3) := (blk_cell BK101.out 3).trans rfl; have hcz16_4 : w15.cell? ⟨gb101, 4, none⟩ = some (.int .i64 a0_4) := (blk_cell BK101.out 4).trans rfl; have hcz16_5 : w15.cell? ⟨gb101, 5, none⟩ = some (.int .i64 a0_5) := (blk_cell BK101.out 5).trans rfl; have hcz16_6 : w15.cell? ⟨gb101, 6, none⟩ = some (.int .i64 a0_6) := (blk_cell BK101.out 6).trans rfl; have hcz16_7 : w15.cell? ⟨gb101, 7, none⟩ = some (.int .i64 a0_7) := (blk_cell BK101.out 7).trans rfl; have hfz16_0 := blk_frozen BK101.out 0; have hfz16_1 := blk_frozen BK101.out 1; have hfz16_2 := blk_frozen BK101.out 2; have hfz16_3 := blk_frozen BK101.out 3; have hfz16_4 := blk_frozen BK101.out 4; have hfz16_5 := blk_frozen BK101.out 5; have hfz16_6 := blk_frozen BK101.out 6; have hfz16_7 := blk_frozen BK101.out 7))
                        go_ret
                        exact ⟨by first | rfl | (simp [errW_none, errW_some] <;> rfl) | (simp [*, errW_none, errW_some] <;> rfl), by repeat (first | (with_reducible first | exact HB.out | apply below_alloc | apply pw_below_drewN | apply below_drew1 | refine below_set ?_ GE101.out) | exact HB.out)⟩
                    · rw [if_neg c11] at H
                      have c11b0 : decide (a0_5 < 1000000000) = false := decide_eq_false c11
                      clear c11
                      obtain rfl := Option.some.inj H
                      go_enter Tryd.func5, Tryd.ntmps5
                      go_wp2_with (first | ((with_reducible refine gate_dst (N := 1) rfl ?_); refine box_event ?hg (N := 1) ?hd (cs := #[.bool a0_0, .int .i64 a0_1, .int .i64 a0_2, .int .i64 a0_3, .int .i64 a0_4, .int .i64 a0_5, .int .i64 a0_6, .int .i64 a0_7]) (t := 23) ?hr ?_; (case hd => rfl); (case hg => rfl); (case hr => first | (go_simp; done) | (go_simp; rfl)); intro gb101 hg w17 hbox hb; have n0_ := Aside0.mk (below_step (by repeat (first | (with_reducible first | exact HB.out | apply below_alloc | apply pw_below_drewN | apply below_drew1) | exact HB.out)) hb); have n1_ := Aside0.mk (hbox); have n2_ := Aside0.mk ((by rw [hg]; exact (below_size (by repeat (first | (with_reducible first | exact HB.out | apply below_alloc | apply pw_below_drewN | apply below_drew1) | exact HB.out))) : w.heap.size ≤ gb101)); have n3_ := Aside0.mk ((by rw [hg]; exact (below_size (by repeat (first | (with_reducible first | exact HB.out | apply below_alloc | apply pw_below_drewN | apply below_drew1) | exact HB.out))) : w.heap.size ≤ gb101)); clear HB; have HB := n0_; have BK101 := n1_; have GW101 := n2_; have GE101 := n3_; clear n0_ n1_ n2_ n3_; clear hb hbox hg; have hcz18_0 : w17.cell? ⟨gb101, 0, none⟩ = some (.bool a0_0) := (blk_cell BK101.out 0).trans rfl; have hcz18_1 : w17.cell? ⟨gb101, 1, none⟩ = some (.int .i64 a0_1) := (blk_cell BK101.out 1).trans rfl; have hcz18_2 : w17.cell? ⟨gb101, 2, none⟩ = some (.int .i64 a0_2) := (blk_cell BK101.out 2).trans rfl; have hcz18_3 : w17.cell? ⟨gb101, 3, none⟩ = some (.int .i64 a0_3) := (blk_cell BK101.out 3).trans rfl; have hcz18_4 : w17.cell? ⟨gb101, 4, none⟩ = some (.int .i64 a0_4) := (blk_cell BK101.out 4).trans rfl; have hcz18_5 : w17.cell? ⟨gb101, 5, none⟩ = some (.int .i64 a0_5) := (blk_cell BK101.out 5).trans rfl; have hcz18_6 : w17.cell? ⟨gb101, 6, none⟩ = some (.int .i64 a0_6) := (blk_cell BK101.out 6).trans rfl; have hcz18_7 : w17.cell? ⟨gb101, 7, none⟩ = some (.int .i64 a0_7) := (blk_cell BK101.out 7).trans rfl; have hfz18_0 := blk_frozen BK101.out 0; have hfz18_1 := blk_frozen BK101.out 1; have hfz18_2 := blk_frozen BK101.out 2; have hfz18_3 := blk_frozen BK101.out 3; have hfz18_4 := blk_frozen BK101.out 4; have hfz18_5 := blk_frozen BK101.out 5; have hfz18_6 := blk_frozen BK101.out 6; have hfz18_7 := blk_frozen BK101.out 7))
                      go_ret
                      exact ⟨by first | rfl | (simp [errW_none, errW_some] <;> rfl) | (simp [*, errW_none, errW_some] <;> rfl), by repeat (first | (with_reducible first | exact HB.out | apply below_alloc | apply pw_below_drewN | apply below_drew1 | refine below_set ?_ GE101.out) | exact HB.out)⟩
                  · rw [if_neg c10] at H
                    have c10b0 : decide (0 ≤ a0_5) = false := decide_eq_false c10
                    clear c10
                    obtain rfl := Option.some.inj H
                    go_enter Tryd.func5, Tryd.ntmps5
                    go_wp2_with (first | ((with_reducible refine gate_dst (N := 1) rfl ?_); refine box_event ?hg (N := 1) ?hd (cs := #[.bool a0_0, .int .i64 a0_1, .int .i64 a0_2, .int .i64 a0_3, .int .i64 a0_4, .int .i64 a0_5, .int .i64 a0_6, .int .i64 a0_7]) (t := 23) ?hr ?_; (case hd => rfl); (case hg => rfl); (case hr => first | (go_simp; done) | (go_simp; rfl)); intro gb101 hg w19 hbox hb; have n0_ := Aside0.mk (below_step (by repeat (first | (with_reducible first | exact HB.out | apply below_alloc | apply pw_below_drewN | apply below_drew1) | exact HB.out)) hb); have n1_ := Aside0.mk (hbox); have n2_ := Aside0.mk ((by rw [hg]; exact (below_size (by repeat (first | (with_reducible first | exact HB.out | apply below_alloc | apply pw_below_drewN | apply below_drew1) | exact HB.out))) : w.heap.size ≤ gb101)); have n3_ := Aside0.mk ((by rw [hg]; exact (below_size (by repeat (first | (with_reducible first | exact HB.out | apply below_alloc | apply pw_below_drewN | apply below_drew1) | exact HB.out))) : w.heap.size ≤ gb101)); clear HB; have HB := n0_; have BK101 := n1_; have GW101 := n2_; have GE101 := n3_; clear n0_ n1_ n2_ n3_; clear hb hbox hg; have hcz20_0 : w19.cell? ⟨gb101, 0, none⟩ = some (.bool a0_0) := (blk_cell BK101.out 0).trans rfl; have hcz20_1 : w19.cell? ⟨gb101, 1, none⟩ = some (.int .i64 a0_1) := (blk_cell BK101.out 1).trans rfl; have hcz20_2 : w19.cell? ⟨gb101, 2, none⟩ = some (.int .i64 a0_2) := (blk_cell BK101.out 2).trans rfl; have hcz20_3 : w19.cell? ⟨gb101, 3, none⟩ = some (.int .i64 a0_3) := (blk_cell BK101.out 3).trans rfl; have hcz20_4 : w19.cell? ⟨gb101, 4, none⟩ = some (.int .i64 a0_4) := (blk_cell BK101.out 4).trans rfl; have hcz20_5 : w19.cell? ⟨gb101, 5, none⟩ = some (.int .i64 a0_5) := (blk_cell BK101.out 5).trans rfl; have hcz20_6 : w19.cell? ⟨gb101, 6, none⟩ = some (.int .i64 a0_6) := (blk_cell BK101.out 6).trans rfl; have hcz20_7 : w19.cell? ⟨gb101, 7, none⟩ = some (.int .i64 a0_7) := (blk_cell BK101.out 7).trans rfl; have hfz20_0 := blk_frozen BK101.out 0; have hfz20_1 := blk_frozen BK101.out 1; have hfz20_2 := blk_frozen BK101.out 2; have hfz20_3 := blk_frozen BK101.out 3; have hfz20_4 := blk_frozen BK101.out 4; have hfz20_5 := blk_frozen BK101.out 5; have hfz20_6 := blk_frozen BK101.out 6; have hfz20_7 := blk_frozen BK101.out 7))
                    go_ret
                    exact ⟨by first | rfl | (simp [errW_none, errW_some] <;> rfl) | (simp [*, errW_none, errW_some] <;> rfl), by repeat (first | (with_reducible first | exact HB.out | apply below_alloc | apply pw_below_drewN | apply below_drew1 | refine below_set ?_ GE101.out) | exact HB.out)⟩
                · rw [if_neg c9] at H
                  have c9b0 : decide (a0_4 < 60) = false := decide_eq_false c9
                  clear c9
                  obtain rfl := Option.some.inj H
                  go_enter Tryd.func5, Tryd.ntmps5
                  go_wp2_with (first | ((with_reducible refine gate_dst (N := 1) rfl ?_); refine box_event ?hg (N := 1) ?hd (cs := #[.bool a0_0, .int .i64 a0_1, .int .i64 a0_2, .int .i64 a0_3, .int .i64 a0_4, .int .i64 a0_5, .int .i64 a0_6, .int .i64 a0_7]) (t := 23) ?hr ?_; (case hd => rfl); (case hg => rfl); (case hr => first | (go_simp; done) | (go_simp; rfl)); intro gb101 hg w21 hbox hb; have n0_ := Aside0.mk (below_step (by repeat (first | (with_reducible first | exact HB.out | apply below_alloc | apply pw_below_drewN | apply below_drew1) | exact HB.out)) hb); have n1_ := Aside0.mk (hbox); have n2_ := Aside0.mk ((by rw [hg]; exact (below_size (by repeat (first | (with_reducible first | exact HB.out | apply below_alloc | apply pw_below_drewN | apply below_drew1) | exact HB.out))) : w.heap.size ≤ gb101)); have n3_ := Aside0.mk ((by rw [hg]; exact (below_size (by repeat (first | (with_reducible first | exact HB.out | apply below_alloc | apply pw_below_drewN | apply below_drew1) | exact HB.out))) : w.heap.size ≤ gb101)); clear HB; have HB := n0_; have BK101 := n1_; have GW101 := n2_; have GE101 := n3_; clear n0_ n1_ n2_ n3_; clear hb hbox hg; have hcz22_0 : w21.cell? ⟨gb101, 0, none⟩ = some (.bool a0_0) := (blk_cell BK101.out 0).trans rfl; have hcz22_1 : w21.cell? ⟨gb101, 1, none⟩ = some (.int .i64 a0_1) := (blk_cell BK101.out 1).trans rfl; have hcz22_2 : w21.cell? ⟨gb101, 2, none⟩ = some (.int .i64 a0_2) := (blk_cell BK101.out 2).trans rfl; have hcz22_3 : w21.cell? ⟨gb101, 3, none⟩ = some (.int .i64 a0_3) := (blk_cell BK101.out 3).trans rfl; have hcz22_4 : w21.cell? ⟨gb101, 4, none⟩ = some (.int .i64 a0_4) := (blk_cell BK101.out 4).trans rfl; have hcz22_5 : w21.cell? ⟨gb101, 5, none⟩ = some (.int .i64 a0_5) := (blk_cell BK101.out 5).trans rfl; have hcz22_6 : w21.cell? ⟨gb101, 6, none⟩ = some (.int .i64 a0_6) := (blk_cell BK101.out 6).trans rfl; have hcz22_7 : w21.cell? ⟨gb101, 7, none⟩ = some (.int .i64 a0_7) := (blk_cell BK101.out 7).trans rfl; have hfz22_0 := blk_frozen BK101.out 0; have hfz22_1 := blk_frozen BK101.out 1; have hfz22_2 := blk_frozen BK101.out 2; have hfz22_3 := blk_frozen BK101.out 3; have hfz22_4 := blk_frozen BK101.out 4; have hfz22_5 := blk_frozen BK101.out 5; have hfz22_6 := blk_frozen BK101.out 6; have hfz22_7 := blk_frozen BK101.out 7))
                  go_ret
                  exact ⟨by first | rfl | (simp [errW_none, errW_some] <;> rfl) | (simp [*, errW_none, errW_some] <;> rfl), by repeat (first | (with_reducible first | exact HB.out | apply below_alloc | apply pw_below_drewN | apply below_drew1 | refine below_set ?_ GE101.out) | exact HB.out)⟩
              · rw [if_neg c8] at H
                have c8b0 : decide (0 ≤ a0_4) = false := decide_eq_false c8
                clear c8
                obtain rfl := Option.some.inj H
                go_enter Tryd.func5, Tryd.ntmps5
                go_wp2_with (first | ((with_reducible refine gate_dst (N := 1) rfl ?_); refine box_event ?hg (N := 1) ?hd (cs := #[.bool a0_0, .int .i64 a0_1, .int .i64 a0_2, .int .i64 a0_3, .int .i64 a0_4, .int .i64 a0_5, .int .i64 a0_6, .int .i64 a0_7]) (t := 23) ?hr ?_; (case hd => rfl); (case hg => rfl); (case hr => first | (go_simp; done) | (go_simp; rfl)); intro gb101 hg w23 hbox hb; have n0_ := Aside0.mk (below_step (by repeat (first | (with_reducible first | exact HB.out | apply below_alloc | apply pw_below_drewN | apply below_drew1) | exact HB.out)) hb); have n1_ := Aside0.mk (hbox); have n2_ := Aside0.mk ((by rw [hg]; exact (below_size (by repeat (first | (with_reducible first | exact HB.out | apply below_alloc | apply pw_below_drewN | apply below_drew1) | exact HB.out))) : w.heap.size ≤ gb101)); have n3_ := Aside0.mk ((by rw [hg]; exact (below_size (by repeat (first | (with_reducible first | exact HB.out | apply below_alloc | apply pw_below_drewN | apply below_drew1) | exact HB.out))) : w.heap.size ≤ gb101)); clear HB; have HB := n0_; have BK101 := n1_; have GW101 := n2_; have GE101 := n3_; clear n0_ n1_ n2_ n3_; clear hb hbox hg; have hcz24_0 : w23.cell? ⟨gb101, 0, none⟩ = some (.bool a0_0) := (blk_cell BK101.out 0).trans rfl; have hcz24_1 : w23.cell? ⟨gb101, 1, none⟩ = some (.int .i64 a0_1) := (blk_cell BK101.out 1).trans rfl; have hcz24_2 : w23.cell? ⟨gb101, 2, none⟩ = some (.int .i64 a0_2) := (blk_cell BK101.out 2).trans rfl; have hcz24_3 : w23.cell? ⟨gb101, 3, none⟩ = some (.int .i64 a0_3) := (blk_cell BK101.out 3).trans rfl; have hcz24_4 : w23.cell? ⟨gb101, 4, none⟩ = some (.int .i64 a0_4) := (blk_cell BK101.out 4).trans rfl; have hcz24_5 : w23.cell? ⟨gb101, 5, none⟩ = some (.int .i64 a0_5) := (blk_cell BK101.out 5).trans rfl; have hcz24_6 : w23.cell? ⟨gb101, 6, none⟩ = some (.int .i64 a0_6) := (blk_cell BK101.out 6).trans rfl; have hcz24_7 : w23.cell? ⟨gb101, 7, none⟩ = some (.int .i64 a0_7) := (blk_cell BK101.out 7).trans rfl; have hfz24_0 := blk_frozen BK101.out 0; have hfz24_1 := blk_frozen BK101.out 1; have hfz24_2 := blk_frozen BK101.out 2; have hfz24_3 := blk_frozen BK101.out 3; have hfz24_4 := blk_frozen BK101.out 4; have hfz24_5 := blk_frozen BK101.out 5; have hfz24_6 := blk_frozen BK101.out 6; have hfz24_7 := blk_frozen BK101.out 7))
                go_ret
                exact ⟨by first | rfl | (simp [errW_none, errW_some] <;> rfl) | (simp [*, errW_none, errW_some] <;> rfl), by repeat (first | (with_reducible first | exact HB.out | apply below_alloc | apply pw_below_drewN | apply below_drew1 | refine below_set ?_ GE101.out) | exact HB.out)⟩
            · rw [if_neg c7] at H
              have c7b0 : decide (a0_3 < 60) = false := decide_eq_false c7
              clear c7
              obtain rfl := Option.some.inj H
              go_enter Tryd.func5, Tryd.ntmps5
              go_wp2_with (first | ((with_reducible refine gate_dst (N := 1) rfl ?_); refine box_event ?hg (N := 1) ?hd (cs := #[.bool a0_0, .int .i64 a0_1, .int .i64 a0_2, .int .i64 a0_3, .int .i64 a0_4, .int .i64 a0_5, .int .i64 a0_6, .int .i64 a0_7]) (t := 23) ?hr ?_; (case hd => rfl); (case hg => rfl); (case hr => first | (go_simp; done) | (go_simp; rfl)); intro gb101 hg w25 hbox hb; have n0_ := Aside0.mk (below_step (by repeat (first | (with_reducible first | exact HB.out | apply below_alloc | apply pw_below_drewN | apply below_drew1) | exact HB.out)) hb); have n1_ := Aside0.mk (hbox); have n2_ := Aside0.mk ((by rw [hg]; exact (below_size (by repeat (first | (with_reducible first | exact HB.out | apply below_alloc | apply pw_below_drewN | apply below_drew1) | exact HB.out))) : w.heap.size ≤ gb101)); have n3_ := Aside0.mk ((by rw [hg]; exact (below_size (by repeat (first | (with_reducible first | exact HB.out | apply below_alloc | apply pw_below_drewN | apply below_drew1) | exact HB.out))) : w.heap.size ≤ gb101)); clear HB; have HB := n0_; have BK101 := n1_; have GW101 := n2_; have GE101 := n3_; clear n0_ n1_ n2_ n3_; clear hb hbox hg; have hcz26_0 : w25.cell? ⟨gb101, 0, none⟩ = some (.bool a0_0) := (blk_cell BK101.out 0).trans rfl; have hcz26_1 : w25.cell? ⟨gb101, 1, none⟩ = some (.int .i64 a0_1) := (blk_cell BK101.out 1).trans rfl; have hcz26_2 : w25.cell? ⟨gb101, 2, none⟩ = some (.int .i64 a0_2) := (blk_cell BK101.out 2).trans rfl; have hcz26_3 : w25.cell? ⟨gb101, 3, none⟩ = some (.int .i64 a0_3) := (blk_cell BK101.out 3).trans rfl; have hcz26_4 : w25.cell? ⟨gb101, 4, none⟩ = some (.int .i64 a0_4) := (blk_cell BK101.out 4).trans rfl; have hcz26_5 : w25.cell? ⟨gb101, 5, none⟩ = some (.int .i64 a0_5) := (blk_cell BK101.out 5).trans rfl; have hcz26_6 : w25.cell? ⟨gb101, 6, none⟩ = some (.int .i64 a0_6) := (blk_cell BK101.out 6).trans rfl; have hcz26_7 : w25.cell? ⟨gb101, 7, none⟩ = some (.int .i64 a0_7) := (blk_cell BK101.out 7).trans rfl; have hfz26_0 := blk_frozen BK101.out 0; have hfz26_1 := blk_frozen BK101.out 1; have hfz26_2 := blk_frozen BK101.out 2; have hfz26_3 := blk_frozen BK101.out 3; have hfz26_4 := blk_frozen BK101.out 4; have hfz26_5 := blk_frozen BK101.out 5; have hfz26_6 := blk_frozen BK101.out 6; have hfz26_7 := blk_frozen BK101.out 7))
              go_ret
              exact ⟨by first | rfl | (simp [errW_none, errW_some] <;> rfl) | (simp [*, errW_none, errW_some] <;> rfl), by repeat (first | (with_reducible first | exact HB.out | apply below_alloc | apply pw_below_drewN | apply below_drew1 | refine below_set ?_ GE101.out) | exact HB.out)⟩
          · rw [if_neg c6] at H
            have c6b0 : decide (0 ≤ a0_3) = false := decide_eq_false c6
            clear c6
            obtain rfl := Option.some.inj H
            go_enter Tryd.func5, Tryd.ntmps5
            go_wp2_with (first | ((with_reducible refine gate_dst (N := 1) rfl ?_); refine box_event ?hg (N := 1) ?hd (cs := #[.bool a0_0, .int .i64 a0_1, .int .i64 a0_2, .int .i64 a0_3, .int .i64 a0_4, .int .i64 a0_5, .int .i64 a0_6, .int .i64 a0_7]) (t := 23) ?hr ?_; (case hd => rfl); (case hg => rfl); (case hr => first | (go_simp; done) | (go_simp; rfl)); intro gb101 hg w27 hbox hb; have n0_ := Aside0.mk (below_step (by repeat (first | (with_reducible first | exact HB.out | apply below_alloc | apply pw_below_drewN | apply below_drew1) | exact HB.out)) hb); have n1_ := Aside0.mk (hbox); have n2_ := Aside0.mk ((by rw [hg]; exact (below_size (by repeat (first | (with_reducible first | exact HB.out | apply below_alloc | apply pw_below_drewN | apply below_drew1) | exact HB.out))) : w.heap.size ≤ gb101)); have n3_ := Aside0.mk ((by rw [hg]; exact (below_size (by repeat (first | (with_reducible first | exact HB.out | apply below_alloc | apply pw_below_drewN | apply below_drew1) | exact HB.out))) : w.heap.size ≤ gb101)); clear HB; have HB := n0_; have BK101 := n1_; have GW101 := n2_; have GE101 := n3_; clear n0_ n1_ n2_ n3_; clear hb hbox hg; have hcz28_0 : w27.cell? ⟨gb101, 0, none⟩ = some (.bool a0_0) := (blk_cell BK101.out 0).trans rfl; have hcz28_1 : w27.cell? ⟨gb101, 1, none⟩ = some (.int .i64 a0_1) := (blk_cell BK101.out 1).trans rfl; have hcz28_2 : w27.cell? ⟨gb101, 2, none⟩ = some (.int .i64 a0_2) := (blk_cell BK101.out 2).trans rfl; have hcz28_3 : w27.cell? ⟨gb101, 3, none⟩ = some (.int .i64 a0_3) := (blk_cell BK101.out 3).trans rfl; have hcz28_4 : w27.cell? ⟨gb101, 4, none⟩ = some (.int .i64 a0_4) := (blk_cell BK101.out 4).trans rfl; have hcz28_5 : w27.cell? ⟨gb101, 5, none⟩ = some (.int .i64 a0_5) := (blk_cell BK101.out 5).trans rfl; have hcz28_6 : w27.cell? ⟨gb101, 6, none⟩ = some (.int .i64 a0_6) := (blk_cell BK101.out 6).trans rfl; have hcz28_7 : w27.cell? ⟨gb101, 7, none⟩ = some (.int .i64 a0_7) := (blk_cell BK101.out 7).trans rfl; have hfz28_0 := blk_frozen BK101.out 0; have hfz28_1 := blk_frozen BK101.out 1; have hfz28_2 := blk_frozen BK101.out 2; have hfz28_3 := blk_frozen BK101.out 3; have hfz28_4 := blk_frozen BK101.out 4; have hfz28_5 := blk_frozen BK101.out 5; have hfz28_6 := blk_frozen BK101.out 6; have hfz28_7 := blk_frozen BK101.out 7))
            go_ret
            exact ⟨by first | rfl | (simp [errW_none, errW_some] <;> rfl) | (simp [*, errW_none, errW_some] <;> rfl), by repeat (first | (with_reducible first | exact HB.out | apply below_alloc | apply pw_below_drewN | apply below_drew1 | refine below_set ?_ GE101.out) | exact HB.out)⟩
        · rw [if_neg c5] at H
          have c5b0 : decide (a0_2 < 24) = false := decide_eq_false c5
          clear c5
          obtain rfl := Option.some.inj H
          go_enter Tryd.func5, Tryd.ntmps5
          go_wp2_with (first | ((with_reducible refine gate_dst (N := 1) rfl ?_); refine box_event ?hg (N := 1) ?hd (cs := #[.bool a0_0, .int .i64 a0_1, .int .i64 a0_2, .int .i64 a0_3, .int .i64 a0_4, .int .i64 a0_5, .int .i64 a0_6, .int .i64 a0_7]) (t := 23) ?hr ?_; (case hd => rfl); (case hg => rfl); (case hr => first | (go_simp; done) | (go_simp; rfl)); intro gb101 hg w29 hbox hb; have n0_ := Aside0.mk (below_step (by repeat (first | (with_reducible first | exact HB.out | apply below_alloc | apply pw_below_drewN | apply below_drew1) | exact HB.out)) hb); have n1_ := Aside0.mk (hbox); have n2_ := Aside0.mk ((by rw [hg]; exact (below_size (by repeat (first | (with_reducible first | exact HB.out | apply below_alloc | apply pw_below_drewN | apply below_drew1) | exact HB.out))) : w.heap.size ≤ gb101)); have n3_ := Aside0.mk ((by rw [hg]; exact (below_size (by repeat (first | (with_reducible first | exact HB.out | apply below_alloc | apply pw_below_drewN | apply below_drew1) | exact HB.out))) : w.heap.size ≤ gb101)); clear HB; have HB := n0_; have BK101 := n1_; have GW101 := n2_; have GE101 := n3_; clear n0_ n1_ n2_ n3_; clear hb hbox hg; have hcz30_0 : w29.cell? ⟨gb101, 0, none⟩ = some (.bool a0_0) := (blk_cell BK101.out 0).trans rfl; have hcz30_1 : w29.cell? ⟨gb101, 1, none⟩ = some (.int .i64 a0_1) := (blk_cell BK101.out 1).trans rfl; have hcz30_2 : w29.cell? ⟨gb101, 2, none⟩ = some (.int .i64 a0_2) := (blk_cell BK101.out 2).trans rfl; have hcz30_3 : w29.cell? ⟨gb101, 3, none⟩ = some (.int .i64 a0_3) := (blk_cell BK101.out 3).trans rfl; have hcz30_4 : w29.cell? ⟨gb101, 4, none⟩ = some (.int .i64 a0_4) := (blk_cell BK101.out 4).trans rfl; have hcz30_5 : w29.cell? ⟨gb101, 5, none⟩ = some (.int .i64 a0_5) := (blk_cell BK101.out 5).trans rfl; have hcz30_6 : w29.cell? ⟨gb101, 6, none⟩ = some (.int .i64 a0_6) := (blk_cell BK101.out 6).trans rfl; have hcz30_7 : w29.cell? ⟨gb101, 7, none⟩ = some (.int .i64 a0_7) := (blk_cell BK101.out 7).trans rfl; have hfz30_0 := blk_frozen BK101.out 0; have hfz30_1 := blk_frozen BK101.out 1; have hfz30_2 := blk_frozen BK101.out 2; have hfz30_3 := blk_frozen BK101.out 3; have hfz30_4 := blk_frozen BK101.out 4; have hfz30_5 := blk_frozen BK101.out 5; have hfz30_6 := blk_frozen BK101.out 6; have hfz30_7 := blk_frozen BK101.out 7))
          go_ret
          exact ⟨by first | rfl | (simp [errW_none, errW_some] <;> rfl) | (simp [*, errW_none, errW_some] <;> rfl), by repeat (first | (with_reducible first | exact HB.out | apply below_alloc | apply pw_below_drewN | apply below_drew1 | refine below_set ?_ GE101.out) | exact HB.out)⟩
      · rw [if_neg c4] at H
        have c4b0 : decide (0 ≤ a0_2) = false := decide_eq_false c4
        clear c4
        obtain rfl := Option.some.inj H
        go_enter Tryd.func5, Tryd.ntmps5
        go_wp2_with (first | ((with_reducible refine gate_dst (N := 1) rfl ?_); refine box_event ?hg (N := 1) ?hd (cs := #[.bool a0_0, .int .i64 a0_1, .int .i64 a0_2, .int .i64 a0_3, .int .i64 a0_4, .int .i64 a0_5, .int .i64 a0_6, .int .i64 a0_7]) (t := 23) ?hr ?_; (case hd => rfl); (case hg => rfl); (case hr => first | (go_simp; done) | (go_simp; rfl)); intro gb101 hg w31 hbox hb; have n0_ := Aside0.mk (below_step (by repeat (first | (with_reducible first | exact HB.out | apply below_alloc | apply pw_below_drewN | apply below_drew1) | exact HB.out)) hb); have n1_ := Aside0.mk (hbox); have n2_ := Aside0.mk ((by rw [hg]; exact (below_size (by repeat (first | (with_reducible first | exact HB.out | apply below_alloc | apply pw_below_drewN | apply below_drew1) | exact HB.out))) : w.heap.size ≤ gb101)); have n3_ := Aside0.mk ((by rw [hg]; exact (below_size (by repeat (first | (with_reducible first | exact HB.out | apply below_alloc | apply pw_below_drewN | apply below_drew1) | exact HB.out))) : w.heap.size ≤ gb101)); clear HB; have HB := n0_; have BK101 := n1_; have GW101 := n2_; have GE101 := n3_; clear n0_ n1_ n2_ n3_; clear hb hbox hg; have hcz32_0 : w31.cell? ⟨gb101, 0, none⟩ = some (.bool a0_0) := (blk_cell BK101.out 0).trans rfl; have hcz32_1 : w31.cell? ⟨gb101, 1, none⟩ = some (.int .i64 a0_1) := (blk_cell BK101.out 1).trans rfl; have hcz32_2 : w31.cell? ⟨gb101, 2, none⟩ = some (.int .i64 a0_2) := (blk_cell BK101.out 2).trans rfl; have hcz32_3 : w31.cell? ⟨gb101, 3, none⟩ = some (.int .i64 a0_3) := (blk_cell BK101.out 3).trans rfl; have hcz32_4 : w31.cell? ⟨gb101, 4, none⟩ = some (.int .i64 a0_4) := (blk_cell BK101.out 4).trans rfl; have hcz32_5 : w31.cell? ⟨gb101, 5, none⟩ = some (.int .i64 a0_5) := (blk_cell BK101.out 5).trans rfl; have hcz32_6 : w31.cell? ⟨gb101, 6, none⟩ = some (.int .i64 a0_6) := (blk_cell BK101.out 6).trans rfl; have hcz32_7 : w31.cell? ⟨gb101, 7, none⟩ = some (.int .i64 a0_7) := (blk_cell BK101.out 7).trans rfl; have hfz32_0 := blk_frozen BK101.out 0; have hfz32_1 := blk_frozen BK101.out 1; have hfz32_2 := blk_frozen BK101.out 2; have hfz32_3 := blk_frozen BK101.out 3; have hfz32_4 := blk_frozen BK101.out 4; have hfz32_5 := blk_frozen BK101.out 5; have hfz32_6 := blk_frozen BK101.out 6; have hfz32_7 := blk_frozen BK101.out 7))
        go_ret
        exact ⟨by first | rfl | (simp [errW_none, errW_some] <;> rfl) | (simp [*, errW_none, errW_some] <;> rfl), by repeat (first | (with_reducible first | exact HB.out | apply below_alloc | apply pw_below_drewN | apply below_drew1 | refine below_set ?_ GE101.out) | exact HB.out)⟩
    · rw [if_neg c3] at H
      have c3b0 : decide (a0_1 < 1000000000) = false := decide_eq_false c3
      clear c3
      obtain rfl := Option.some.inj H
      go_enter Tryd.func5, Tryd.ntmps5
      go_wp2_with (first | ((with_reducible refine gate_dst (N := 1) rfl ?_); refine box_event ?hg (N := 1) ?hd (cs := #[.bool a0_0, .int .i64 a0_1, .int .i64 a0_2, .int .i64 a0_3, .int .i64 a0_4, .int .i64 a0_5, .int .i64 a0_6, .int .i64 a0_7]) (t := 23) ?hr ?_; (case hd => rfl); (case hg => rfl); (case hr => first | (go_simp; done) | (go_simp; rfl)); intro gb101 hg w33 hbox hb; have n0_ := Aside0.mk (below_step (by repeat (first | (with_reducible first | exact HB.out | apply below_alloc | apply pw_below_drewN | apply below_drew1) | exact HB.out)) hb); have n1_ := Aside0.mk (hbox); have n2_ := Aside0.mk ((by rw [hg]; exact (below_size (by repeat (first | (with_reducible first | exact HB.out | apply below_alloc | apply pw_below_drewN | apply below_drew1) | exact HB.out))) : w.heap.size ≤ gb101)); have n3_ := Aside0.mk ((by rw [hg]; exact (below_size (by repeat (first | (with_reducible first | exact HB.out | apply below_alloc | apply pw_below_drewN | apply below_drew1) | exact HB.out))) : w.heap.size ≤ gb101)); clear HB; have HB := n0_; have BK101 := n1_; have GW101 := n2_; have GE101 := n3_; clear n0_ n1_ n2_ n3_; clear hb hbox hg; have hcz34_0 : w33.cell? ⟨gb101, 0, none⟩ = some (.bool a0_0) := (blk_cell BK101.out 0).trans rfl; have hcz34_1 : w33.cell? ⟨gb101, 1, none⟩ = some (.int .i64 a0_1) := (blk_cell BK101.out 1).trans rfl; have hcz34_2 : w33.cell? ⟨gb101, 2, none⟩ = some (.int .i64 a0_2) := (blk_cell BK101.out 2).trans rfl; have hcz34_3 : w33.cell? ⟨gb101, 3, none⟩ = some (.int .i64 a0_3) := (blk_cell BK101.out 3).trans rfl; have hcz34_4 : w33.cell? ⟨gb101, 4, none⟩ = some (.int .i64 a0_4) := (blk_cell BK101.out 4).trans rfl; have hcz34_5 : w33.cell? ⟨gb101, 5, none⟩ = some (.int .i64 a0_5) := (blk_cell BK101.out 5).trans rfl; have hcz34_6 : w33.cell? ⟨gb101, 6, none⟩ = some (.int .i64 a0_6) := (blk_cell BK101.out 6).trans rfl; have hcz34_7 : w33.cell? ⟨gb101, 7, none⟩ = some (.int .i64 a0_7) := (blk_cell BK101.out 7).trans rfl; have hfz34_0 := blk_frozen BK101.out 0; have hfz34_1 := blk_frozen BK101.out 1; have hfz34_2 := blk_frozen BK101.out 2; have hfz34_3 := blk_frozen BK101.out 3; have hfz34_4 := blk_frozen BK101.out 4; have hfz34_5 := blk_frozen BK101.out 5; have hfz34_6 := blk_frozen BK101.out 6; have hfz34_7 := blk_frozen BK101.out 7))
      go_ret
      exact ⟨by first | rfl | (simp [errW_none, errW_some] <;> rfl) | (simp [*, errW_none, errW_some] <;> rfl), by repeat (first | (with_reducible first | exact HB.out | apply below_alloc | apply pw_below_drewN | apply below_drew1 | refine below_set ?_ GE101.out) | exact HB.out)⟩
  · rw [if_neg c2] at H
    have c2b0 : decide (0 ≤ a0_1) = false := decide_eq_false c2
    clear c2
    obtain rfl := Option.some.inj H
    go_enter Tryd.func5, Tryd.ntmps5
    go_wp2_with (first | ((with_reducible refine gate_dst (N := 1) rfl ?_); refine box_event ?hg (N := 1) ?hd (cs := #[.bool a0_0, .int .i64 a0_1, .int .i64 a0_2, .int .i64 a0_3, .int .i64 a0_4, .int .i64 a0_5, .int .i64 a0_6, .int .i64 a0_7]) (t := 23) ?hr ?_; (case hd => rfl); (case hg => rfl); (case hr => first | (go_simp; done) | (go_simp; rfl)); intro gb101 hg w35 hbox hb; have n0_ := Aside0.mk (below_step (by repeat (first | (with_reducible first | exact HB.out | apply below_alloc | apply pw_below_drewN | apply below_drew1) | exact HB.out)) hb); have n1_ := Aside0.mk (hbox); have n2_ := Aside0.mk ((by rw [hg]; exact (below_size (by repeat (first | (with_reducible first | exact HB.out | apply below_alloc | apply pw_below_drewN | apply below_drew1) | exact HB.out))) : w.heap.size ≤ gb101)); have n3_ := Aside0.mk ((by rw [hg]; exact (below_size (by repeat (first | (with_reducible first | exact HB.out | apply below_alloc | apply pw_below_drewN | apply below_drew1) | exact HB.out))) : w.heap.size ≤ gb101)); clear HB; have HB := n0_; have BK101 := n1_; have GW101 := n2_; have GE101 := n3_; clear n0_ n1_ n2_ n3_; clear hb hbox hg; have hcz36_0 : w35.cell? ⟨gb101, 0, none⟩ = some (.bool a0_0) := (blk_cell BK101.out 0).trans rfl; have hcz36_1 : w35.cell? ⟨gb101, 1, none⟩ = some (.int .i64 a0_1) := (blk_cell BK101.out 1).trans rfl; have hcz36_2 : w35.cell? ⟨gb101, 2, none⟩ = some (.int .i64 a0_2) := (blk_cell BK101.out 2).trans rfl; have hcz36_3 : w35.cell? ⟨gb101, 3, none⟩ = some (.int .i64 a0_3) := (blk_cell BK101.out 3).trans rfl; have hcz36_4 : w35.cell? ⟨gb101, 4, none⟩ = some (.int .i64 a0_4) := (blk_cell BK101.out 4).trans rfl; have hcz36_5 : w35.cell? ⟨gb101, 5, none⟩ = some (.int .i64 a0_5) := (blk_cell BK101.out 5).trans rfl; have hcz36_6 : w35.cell? ⟨gb101, 6, none⟩ = some (.int .i64 a0_6) := (blk_cell BK101.out 6).trans rfl; have hcz36_7 : w35.cell? ⟨gb101, 7, none⟩ = some (.int .i64 a0_7) := (blk_cell BK101.out 7).trans rfl; have hfz36_0 := blk_frozen BK101.out 0; have hfz36_1 := blk_frozen BK101.out 1; have hfz36_2 := blk_frozen BK101.out 2; have hfz36_3 := blk_frozen BK101.out 3; have hfz36_4 := blk_frozen BK101.out 4; have hfz36_5 := blk_frozen BK101.out 5; have hfz36_6 := blk_frozen BK101.out 6; have hfz36_7 := blk_frozen BK101.out 7))
    go_ret
    exact ⟨by first | rfl | (simp [errW_none, errW_some] <;> rfl) | (simp [*, errW_none, errW_some] <;> rfl), by repeat (first | (with_reducible first | exact HB.out | apply below_alloc | apply pw_below_drewN | apply below_drew1 | refine below_set ?_ GE101.out) | exact HB.out)⟩

-- GIVEN: function 11 (bytes_Clone)

-- GIVEN: function 14 (binary_bigEndian_Uint32)

-- GIVEN: function 16 (strconv_FormatInt)

/-! ### converters_zzPadded: function 15 -/
mutual
def converters_zzPadded.j0 : Nat → Int → ByteArray → ByteArray → Option (ByteArray)
  | 0, _, _, _ => none
  | k + 1, x1, x5, x6 => converters_zzPadded.l0 k x1 x5 x6
def converters_zzPadded.l0 : Nat → Int → ByteArray → ByteArray → Option (ByteArray)
  | 0, _, _, _ => none
  | k + 1, x1, x5, x6 => if (x5.size : Int) < x1 then (if 1 + x5.size ≤ 9223372036854775807 then (converters_zzPadded.l0 k x1 ((⟨#[48]⟩ : ByteArray) ++ x5) x6) else (none)) else (if x6.size + x5.size ≤ 9223372036854775807 then (some (x6 ++ x5)) else (none))
end
def converters_zzPadded.f (k : Nat) (a0 : Int) (a1 : Int) : Option (ByteArray) := (strconv_FormatInt.f a0 10).bind fun t102 => (if 0 < (t102.size : Int) then (if (bt t102 0) = 45 then (if 1 ≤ (t102.size : Int) then (converters_zzPadded.j0 k (wrap64 (a1 - 1)) (t102.extract 1 t102.size) (⟨#[45]⟩ : ByteArray)) else (none)) else (converters_zzPadded.j0 k a1 t102 (⟨#[]⟩ : ByteArray))) else (none))
theorem converters_zzPadded.mono_l : ∀ k, (∀ y0 y1 y2, LeO (converters_zzPadded.j0 k y0 y1 y2) (converters_zzPadded.j0 (k + 1) y0 y1 y2)) ∧ (∀ y0 y1 y2, LeO (converters_zzPadded.l0 k y0 y1 y2) (converters_zzPadded.l0 (k + 1) y0 y1 y2))
  | 0 => ⟨fun _ _ _ r h => by simp [converters_zzPadded.j0] at h, fun _ _ _ r h => by simp [converters_zzPadded.l0] at h⟩
  | k + 1 => by
    obtain ⟨ih0, ih1⟩ := converters_zzPadded.mono_l k
    refine ⟨?_, ?_⟩
    · intro y0 y1 y2
      unfold converters_zzPadded.j0
      repeat' first
      | (with_reducible exact ih0 _ _ _)
      | (with_reducible exact ih1 _ _ _)
      | (with_reducible exact LeO.refl _)
      | (with_reducible exact LeO.none _)
      | (with_reducible refine LeO.ite ?_ ?_)
      | (with_reducible refine LeO.bind ?_ (fun _ => ?_))
      | exact ih0 _ _ _
      | exact ih1 _ _ _
      | exact LeO.none _
      | refine LeO.ite ?_ ?_
      | refine LeO.bind ?_ (fun _ => ?_)
    · intro y0 y1 y2
      unfold converters_zzPadded.l0
      repeat' first
      | (with_reducible exact ih0 _ _ _)
      | (with_reducible exact ih1 _ _ _)
      | (with_reducible exact LeO.refl _)
      | (with_reducible exact LeO.none _)
      | (with_reducible refine LeO.ite ?_ ?_)
      | (with_reducible refine LeO.bind ?_ (fun _ => ?_))
      | exact ih0 _ _ _
      | exact ih1 _ _ _
      | exact LeO.none _
      | refine LeO.ite ?_ ?_
      | refine LeO.bind ?_ (fun _ => ?_)
theorem converters_zzPadded.mono : ∀ a0 a1 k, LeO (converters_zzPadded.f k a0 a1) (converters_zzPadded.f (k + 1) a0 a1) := by
  intro a0 a1 k
  obtain ⟨ih0, ih1⟩ := converters_zzPadded.mono_l k
  unfold converters_zzPadded.f
  repeat' first
      | (with_reducible exact ih0 _ _ _)
      | (with_reducible exact ih1 _ _ _)
      | (with_reducible exact LeO.refl _)
      | (with_reducible exact LeO.none _)
      | (with_reducible refine LeO.ite ?_ ?_)
      | (with_reducible refine LeO.bind ?_ (fun _ => ?_))
      | exact ih0 _ _ _
      | exact ih1 _ _ _
      | exact LeO.none _
      | refine LeO.ite ?_ ?_
      | refine LeO.bind ?_ (fun _ => ?_)
set_option maxHeartbeats 8000000 in
set_option maxRecDepth 100000 in
theorem converters_zzPadded.calls (k : Nat) (a0 : Int) (a1 : Int) (r : ByteArray) (w : World) (h : converters_zzPadded.f k a0 a1 = some r) (htab : Tab w) :
    Calls Tryd.prog 15 #[.int .i64 a0, .int .i64 a1] w fun e w' => e = .returned (.string r) ∧ Below w.heap.size w w' := by
  have HT := Aside0.mk (tab_all htab)
  clear htab
  have HB := Aside0.mk (Below.refl w.heap.size w)
  have H : ((strconv_FormatInt.f a0 10).bind fun t102 => (if 0 < (t102.size : Int) then (if (bt t102 0) = 45 then (if 1 ≤ (t102.size : Int) then (converters_zzPadded.j0 k (wrap64 (a1 - 1)) (t102.extract 1 t102.size) (⟨#[45]⟩ : ByteArray)) else (none)) else (converters_zzPadded.j0 k a1 t102 (⟨#[]⟩ : ByteArray))) else (none))) = some r := h
  clear h
  replace H := Option.bind_eq_some_iff.mp H
  obtain ⟨t102, A30, H⟩ := H
  replace H : (if 0 < (t102.size : Int) then (if (bt t102 0) = 45 then (if 1 ≤ (t102.size : Int) then (converters_zzPadded.j0 k (wrap64 (a1 - 1)) (t102.extract 1 t102.size) (⟨#[45]⟩ : ByteArray)) else (none)) else (converters_zzPadded.j0 k a1 t102 (⟨#[]⟩ : ByteArray))) else (none)) = some r := H
  have A3 := Aside0.mk A30
  clear A30
  by_cases c4 : 0 < (t102.size : Int)
  · rw [if_pos c4] at H
    have c4b0 : decide (0 < (t102.size : Int)) = true := decide_eq_true c4
    have c4b1 : decide (0 < t102.size) = true := decide_eq_true (by omega)
    clear c4
    have HC6 := Aside0.mk H
    clear H
    go_enter Tryd.func15, Tryd.ntmps15
    go_upto_if 11 with (first | (go_at_call 16; (with_reducible refine (strconv_FormatInt.calls a0 10 t102 _ A3.out ?side99).mono ?_); (case side99 => exact HT.out _ (by repeat (first | (with_reducible first | exact HB.out | apply below_alloc | apply pw_below_drewN | apply below_drew1) | exact HB.out))); rintro e w7 ⟨rfl, hb⟩; have n0_ := Aside0.mk (below_step (by repeat (first | (with_reducible first | exact HB.out | apply below_alloc | apply pw_below_drewN | apply below_drew1) | exact HB.out)) hb); clear HB; have HB := n0_; clear n0_; (try clear hb); (try clear hb2); (try clear hk); (try clear hi); have p5 : 0 ≤ (0 : Int) := (by omega); have q5 : 0 < t102.size := (by have : (0 : Int) < (t102.size : Int) := of_decide_eq_true (by first | (with_reducible assumption) | assumption); omega); have hx5 : ∀ h : 0 < t102.size, ((t102[0]'h).toNat : Int) = bt t102 0 := bt_at t102 0; clear p5; have qi5 : (0 < (t102.size : Int)) = True := eq_true (of_decide_eq_true (by first | (with_reducible assumption) | assumption)); replace q5 := eq_true q5))
    repeat (go_quiet (first | (go_at_call 16; (with_reducible refine (strconv_FormatInt.calls a0 10 t102 _ A3.out ?side99).mono ?_); (case side99 => exact HT.out _ (by repeat (first | (with_reducible first | exact HB.out | apply below_alloc | apply pw_below_drewN | apply below_drew1) | exact HB.out))); rintro e w7 ⟨rfl, hb⟩; have n0_ := Aside0.mk (below_step (by repeat (first | (with_reducible first | exact HB.out | apply below_alloc | apply pw_below_drewN | apply below_drew1) | exact HB.out)) hb); clear HB; have HB := n0_; clear n0_; (try clear hb); (try clear hb2); (try clear hk); (try clear hi); have p5 : 0 ≤ (0 : Int) := (by omega); have q5 : 0 < t102.size := (by have : (0 : Int) < (t102.size : Int) := of_decide_eq_true (by first | (with_reducible assumption) | assumption); omega); have hx5 : ∀ h : 0 < t102.size, ((t102[0]'h).toNat : Int) = bt t102 0 := bt_at t102 0; clear p5; have qi5 : (0 < (t102.size : Int)) = True := eq_true (of_decide_eq_true (by first | (with_reducible assumption) | assumption)); replace q5 := eq_true q5)); go_upto_if 11 with (first | (go_at_call 16; (with_reducible refine (strconv_FormatInt.calls a0 10 t102 _ A3.out ?side99).mono ?_); (case side99 => exact HT.out _ (by repeat (first | (with_reducible first | exact HB.out | apply below_alloc | apply pw_below_drewN | apply below_drew1) | exact HB.out))); rintro e w7 ⟨rfl, hb⟩; have n0_ := Aside0.mk (below_step (by repeat (first | (with_reducible first | exact HB.out | apply below_alloc | apply pw_below_drewN | apply below_drew1) | exact HB.out)) hb); clear HB; have HB := n0_; clear n0_; (try clear hb); (try clear hb2); (try clear hk); (try clear hi); have p5 : 0 ≤ (0 : Int) := (by omega); have q5 : 0 < t102.size := (by have : (0 : Int) < (t102.size : Int) := of_decide_eq_true (by first | (with_reducible assumption) | assumption); omega); have hx5 : ∀ h : 0 < t102.size, ((t102[0]'h).toNat : Int) = bt t102 0 := bt_at t102 0; clear p5; have qi5 : (0 < (t102.size : Int)) = True := eq_true (of_decide_eq_true (by first | (with_reducible assumption) | assumption)); replace q5 := eq_true q5)))
    (try simp only [Act.put, List.setIfInBounds_toArray, List.set_cons_zero, List.set_cons_succ])
    go_cut [1, 5, 6] (fun v1 v5 v6 wc => ∃ (kq : Nat) (x1_5 : Int) (x5_5 : ByteArray) (x6_5 : ByteArray), v1 = .int .i64 x1_5 ∧ v5 = .string x5_5 ∧ v6 = .string x6_5 ∧ Aside0 (converters_zzPadded.j0 kq x1_5 x5_5 x6_5 = some r) ∧ Aside0 (kq ≤ k) ∧ Aside0 (Below w.heap.size w wc))
    case first =>
      have H := HC6.out
      clear HC6
      by_cases c8 : (bt t102 0) = 45
      · rw [if_pos c8] at H
        have c8b0 : ((bt t102 0) == 45) = true := beq_iff_eq.mpr c8
        have c8b1 : ((bt t102 0) != 45) = false := bne_eq_false_iff_eq.mpr c8
        clear c8
        (first | rw [c8b0] | (simp only [i64_w, i32_w]; rw [c8b0]) | skip)
        by_cases c9 : 1 ≤ (t102.size : Int)
        · rw [if_pos c9] at H
          have c9b0 := eq_true c9
          have c9b1 : decide (1 ≤ (t102.size : Int)) = true := decide_eq_true c9
          clear c9
          have H' := Aside0.mk H
          clear H
          go_wp2
          repeat (go_quiet (fail); try go_wp2)
          go_meet
          case rel => exact ⟨_, (wrap64 (a1 - 1)), (t102.extract 1 t102.size), ((⟨#[45]⟩ : ByteArray)), (by first | rfl | (simp; done) | (simp [*]; done)), (by first | rfl | (simp; done) | (simp [*]; done)), (by first | rfl | (simp; done) | (simp [*]; done)), H', ⟨by first | omega | exact Nat.le_refl _⟩, ⟨by repeat (first | (with_reducible first | exact HB.out | apply below_alloc | apply pw_below_drewN | apply below_drew1) | exact HB.out)⟩⟩
        · rw [if_neg c9] at H
          exact absurd H (by simp)
      · rw [if_neg c8] at H
        have c8b0 : ((bt t102 0) == 45) = false := beq_eq_false_iff_ne.mpr c8
        have c8b1 : ((bt t102 0) != 45) = true := bne_iff_ne.mpr c8
        (first | rw [c8b0] | (simp only [i64_w, i32_w]; rw [c8b0]) | skip)
        have H' := Aside0.mk H
        clear H
        go_wp2
        repeat (go_quiet (fail); try go_wp2)
        go_meet
        case rel => exact ⟨_, (a1), (t102), ((⟨#[]⟩ : ByteArray)), (by first | rfl | (simp; done) | (simp [*]; done)), (by first | rfl | (simp; done) | (simp [*]; done)), (by first | rfl | (simp; done) | (simp [*]; done)), H', ⟨by first | omega | exact Nat.le_refl _⟩, ⟨by repeat (first | (with_reducible first | exact HB.out | apply below_alloc | apply pw_below_drewN | apply below_drew1) | exact HB.out)⟩⟩
    case rest =>
      clear HC6
      try clear c1
      try clear p2
      try clear c4
      try clear c4b0
      try clear c4b1
      try clear p5
      try clear q5
      try clear hx5
      try clear qi5
      try clear p6
      try clear c8
      try clear c8b0
      try clear c8b1
      try clear c9
      try clear c9b0
      try clear c9b1
      try clear p5
      try clear q5
      obtain ⟨kq, x1_5, x5_5, x6_5, rfl, rfl, rfl, HA, HJ5, HB⟩ := hcut
      cases kq with
      | zero => exact absurd HA.out (by simp [converters_zzPadded.j0])
      | succ kj5 =>
        have H := HA.out
        clear HA
        simp only [converters_zzPadded.j0] at H
        have H' := Aside0.mk H
        clear H
        go_wp2
        repeat (go_quiet (fail); try go_wp2)
        go_loopg [5] kj5 (fun kq v5 w' => ∃ (x5_2 : ByteArray), v5 = .string x5_2 ∧ Aside0 (converters_zzPadded.l0 kq x1_5 x5_2 x6_5 = some r) ∧ Aside0 (kq ≤ kj5) ∧ Aside0 (Below w.heap.size w w'))
        case atStart => exact ⟨(x5_5), (by first | rfl | (simp; done) | (simp [*]; done)), H', ⟨Nat.le_refl _⟩, ⟨by repeat (first | (with_reducible first | exact HB.out | apply below_alloc | apply pw_below_drewN | apply below_drew1) | exact HB.out)⟩⟩
        case round =>
          clear H'
          try clear c1
          try clear p2
          try clear c4
          try clear c4b0
          try clear c4b1
          try clear p5
          try clear q5
          try clear hx5
          try clear qi5
          try clear p6
          try clear c8
          try clear c8b0
          try clear c8b1
          try clear c9
          try clear c9b0
          try clear c9b1
          try clear p2
          try clear p5
          try clear p6
          try clear q5
          obtain ⟨x5_2, rfl, HA, HK2, HB⟩ := hrel
          cases gk with
          | zero => exact absurd HA.out (by simp [converters_zzPadded.l0])
          | succ k2 =>
            have H := HA.out
            clear HA
            simp only [converters_zzPadded.l0] at H
            by_cases c10 : (x5_2.size : Int) < x1_5
            · rw [if_pos c10] at H
              have c10b0 : decide ((x5_2.size : Int) < x1_5) = true := decide_eq_true c10
              clear c10
              by_cases c11 : 1 + x5_2.size ≤ 9223372036854775807
              · rw [if_pos c11] at H
                have c11b0 := eq_true c11
                have c11b1 : decide (1 + x5_2.size ≤ 9223372036854775807) = true := decide_eq_true c11
                try have c11b2 : (9223372036854775807 < 1 + x5_2.size) = False := eq_false (Nat.not_lt.2 c11)
                have H' := Aside0.mk H
                clear H
                go_wp2
                repeat (go_quiet (fail); try go_wp2)
                go_roundg k2
                case measure => have := HJ5.out; have := HK2.out; omega
                case rel => exact ⟨((⟨#[48]⟩ : ByteArray) ++ x5_2), (by first | rfl | (simp; done) | (simp [*]; done)), H', ⟨by have := HJ5.out; have := HK2.out; omega⟩, ⟨by repeat (first | (with_reducible first | exact HB.out | apply below_alloc | apply pw_below_drewN | apply below_drew1) | exact HB.out)⟩⟩
              · rw [if_neg c11] at H
                exact absurd H (by simp)
            · rw [if_neg c10] at H
              have c10b0 : decide ((x5_2.size : Int) < x1_5) = false := decide_eq_false c10
              clear c10
              by_cases c12 : x6_5.size + x5_2.size ≤ 9223372036854775807
              · rw [if_pos c12] at H
                have c12b0 := eq_true c12
                have c12b1 : decide (x6_5.size + x5_2.size ≤ 9223372036854775807) = true := decide_eq_true c12
                try have c12b2 : (9223372036854775807 < x6_5.size + x5_2.size) = False := eq_false (Nat.not_lt.2 c12)
                obtain rfl := Option.some.inj H
                go_wp2
                repeat (go_quiet (fail); try go_wp2)
                go_ret
                exact ⟨by first | rfl | (simp [errW_none, errW_some] <;> rfl) | (simp [*, errW_none, errW_some] <;> rfl), by repeat (first | (with_reducible first | exact HB.out | apply below_alloc | apply pw_below_drewN | apply below_drew1) | exact HB.out)⟩
              · rw [if_neg c12] at H
                exact absurd H (by simp)
  · rw [if_neg c4] at H
    exact absurd H (by simp)

/-! ### converters_ConvertIntervalYM_DTY: function 13 -/
def converters_ConvertIntervalYM_DTY.f (k : Nat) (l0 : List Int) : Option (ByteArray) := (binary_bigEndian_Uint32.f l0).bind fun t103 => (if (wrap64 ((wrap64 (t103)) - 2147483648)) ≥ 0 then (if 4 < (l0.length : Int) then ((converters_zzPadded.f k (wrap64 ((wrap64 (t103)) - 2147483648)) 2).bind fun t105 => (if 1 + t105.size ≤ 9223372036854775807 then (if ((⟨#[43]⟩ : ByteArray) ++ t105).size + 1 ≤ 9223372036854775807 then ((converters_zzPadded.f k (((rd l0 4) - 60) % 256) 2).bind fun t106 => (if (((⟨#[43]⟩ : ByteArray) ++ t105) ++ (⟨#[45]⟩ : ByteArray)).size + t106.size ≤ 9223372036854775807 then (some ((((⟨#[43]⟩ : ByteArray) ++ t105) ++ (⟨#[45]⟩ : ByteArray)) ++ t106)) else (none))) else (none)) else (none))) else (none)) else (if 4 < (l0.length : Int) then ((converters_zzPadded.f k (wrap64 (-(wrap64 ((wrap64 (t103)) - 2147483648)))) 2).bind fun t108 => (if 1 + t108.size ≤ 9223372036854775807 then (if ((⟨#[45]⟩ : ByteArray) ++ t108).size + 1 ≤ 9223372036854775807 then ((converters_zzPadded.f k (((rd l0 4) - 40) % 256) 2).bind fun t109 => (if (((⟨#[45]⟩ : ByteArray) ++ t108) ++ (⟨#[45]⟩ : ByteArray)).size + t109.size ≤ 9223372036854775807 then (some ((((⟨#[45]⟩ : ByteArray) ++ t108) ++ (⟨#[45]⟩ : ByteArray)) ++ t109)) else (none))) else (none)) else (none))) else (none)))
theorem converters_ConvertIntervalYM_DTY.mono : ∀ a0 k, LeO (converters_ConvertIntervalYM_DTY.f k a0) (converters_ConvertIntervalYM_DTY.f (k + 1) a0) := by
  intro a0 k
  unfold converters_ConvertIntervalYM_DTY.f
  repeat' first
      | (with_reducible exact converters_zzPadded.mono _ _ _)
      | (with_reducible exact LeO.refl _)
      | (with_reducible exact LeO.none _)
      | (with_reducible refine LeO.ite ?_ ?_)
      | (with_reducible refine LeO.bind ?_ (fun _ => ?_))
      | exact converters_zzPadded.mono _ _ _
      | exact LeO.none _
      | refine LeO.ite ?_ ?_
      | refine LeO.bind ?_ (fun _ => ?_)
set_option maxHeartbeats 8000000 in
set_option maxRecDepth 100000 in
theorem converters_ConvertIntervalYM_DTY.calls (k : Nat) (A0 : Option Addr) (c0 : Nat) (l0 : List Int) (r : ByteArray) (w : World) (hr0 : Kd.C (Kd.int .u8) w A0 l0.length l0) (hc0 : l0.length ≤ c0) (h : converters_ConvertIntervalYM_DTY.f k l0 = some r) (htab : Tab w) :
    Calls Tryd.prog 13 #[.slice A0 l0.length c0] w fun e w' => e = .returned (.string r) ∧ Below w.heap.size w w' := by
  have HT := Aside0.mk (tab_all htab)
  clear htab
  have HR0 := Aside0.mk hr0
  have HC0 := Aside0.mk hc0
  clear hr0 hc0
  have HB := Aside0.mk (Below.refl w.heap.size w)
  have H : ((binary_bigEndian_Uint32.f l0).bind fun t103 => (if (wrap64 ((wrap64 (t103)) - 2147483648)) ≥ 0 then (if 4 < (l0.length : Int) then ((converters_zzPadded.f k (wrap64 ((wrap64 (t103)) - 2147483648)) 2).bind fun t105 => (if 1 + t105.size ≤ 9223372036854775807 then (if ((⟨#[43]⟩ : ByteArray) ++ t105).size + 1 ≤ 9223372036854775807 then ((converters_zzPadded.f k (((rd l0 4) - 60) % 256) 2).bind fun t106 => (if (((⟨#[43]⟩ : ByteArray) ++ t105) ++ (⟨#[45]⟩ : ByteArray)).size + t106.size ≤ 9223372036854775807 then (some ((((⟨#[43]⟩ : ByteArray) ++ t105) ++ (⟨#[45]⟩ : ByteArray)) ++ t106)) else (none))) else (none)) else (none))) else (none)) else (if 4 < (l0.length : Int) then ((converters_zzPadded.f k (wrap64 (-(wrap64 ((wrap64 (t103)) - 2147483648)))) 2).bind fun t108 => (if 1 + t108.size ≤ 9223372036854775807 then (if ((⟨#[45]⟩ : ByteArray) ++ t108).size + 1 ≤ 9223372036854775807 then ((converters_zzPadded.f k (((rd l0 4) - 40) % 256) 2).bind fun t109 => (if (((⟨#[45]⟩ : ByteArray) ++ t108) ++ (⟨#[45]⟩ : ByteArray)).size + t109.size ≤ 9223372036854775807 then (some ((((⟨#[45]⟩ : ByteArray) ++ t108) ++ (⟨#[45]⟩ : ByteArray)) ++ t109)) else (none))) else (none)) else (none))) else (none)))) = some r := h
  clear h
  replace H := Option.bind_eq_some_iff.mp H
  obtain ⟨t103, A20, H⟩ := H
  replace H : (if (wrap64 ((wrap64 (t103)) - 2147483648)) ≥ 0 then (if 4 < (l0.length : Int) then ((converters_zzPadded.f k (wrap64 ((wrap64 (t103)) - 2147483648)) 2).bind fun t105 => (if 1 + t105.size ≤ 9223372036854775807 then (if ((⟨#[43]⟩ : ByteArray) ++ t105).size + 1 ≤ 9223372036854775807 then ((converters_zzPadded.f k (((rd l0 4) - 60) % 256) 2).bind fun t106 => (if (((⟨#[43]⟩ : ByteArray) ++ t105) ++ (⟨#[45]⟩ : ByteArray)).size + t106.size ≤ 9223372036854775807 then (some ((((⟨#[43]⟩ : ByteArray) ++ t105) ++ (⟨#[45]⟩ : ByteArray)) ++ t106)) else (none))) else (none)) else (none))) else (none)) else (if 4 < (l0.length : Int) then ((converters_zzPadded.f k (wrap64 (-(wrap64 ((wrap64 (t103)) - 2147483648)))) 2).bind fun t108 => (if 1 + t108.size ≤ 9223372036854775807 then (if ((⟨#[45]⟩ : ByteArray) ++ t108).size + 1 ≤ 9223372036854775807 then ((converters_zzPadded.f k (((rd l0 4) - 40) % 256) 2).bind fun t109 => (if (((⟨#[45]⟩ : ByteArray) ++ t108) ++ (⟨#[45]⟩ : ByteArray)).size + t109.size ≤ 9223372036854775807 then (some ((((⟨#[45]⟩ : ByteArray) ++ t108) ++ (⟨#[45]⟩ : ByteArray)) ++ t109)) else (none))) else (none)) else (none))) else (none))) = some r := H
  have A2 := Aside0.mk A20
  clear A20
  by_cases c3 : (wrap64 ((wrap64 (t103)) - 2147483648)) ≥ 0
  · rw [if_pos c3] at H
    have c3b0 : decide (0 ≤ (wrap64 ((wrap64 (t103)) - 2147483648))) = true := decide_eq_true c3
    clear c3
    by_cases c4 : 4 < (l0.length : Int)
    · rw [if_pos c4] at H
      have c4b0 : decide (4 < (l0.length : Int)) = true := decide_eq_true c4
      have c4b1 : decide (4 < l0.length) = true := decide_eq_true (by omega)
      clear c4
      replace H := Option.bind_eq_some_iff.mp H
      obtain ⟨t105, A50, H⟩ := H
      replace H : (if 1 + t105.size ≤ 9223372036854775807 then (if ((⟨#[43]⟩ : ByteArray) ++ t105).size + 1 ≤ 9223372036854775807 then ((converters_zzPadded.f k (((rd l0 4) - 60) % 256) 2).bind fun t106 => (if (((⟨#[43]⟩ : ByteArray) ++ t105) ++ (⟨#[45]⟩ : ByteArray)).size + t106.size ≤ 9223372036854775807 then (some ((((⟨#[43]⟩ : ByteArray) ++ t105) ++ (⟨#[45]⟩ : ByteArray)) ++ t106)) else (none))) else (none)) else (none)) = some r := H
      have A5 := Aside0.mk A50
      clear A50
      by_cases c6 : 1 + t105.size ≤ 9223372036854775807
      · rw [if_pos c6] at H
        have c6b0 := eq_true c6
        have c6b1 : decide (1 + t105.size ≤ 9223372036854775807) = true := decide_eq_true c6
        try have c6b2 : (9223372036854775807 < 1 + t105.size) = False := eq_false (Nat.not_lt.2 c6)
        by_cases c7 : ((⟨#[43]⟩ : ByteArray) ++ t105).size + 1 ≤ 9223372036854775807
        · rw [if_pos c7] at H
          have c7b0 := eq_true c7
          have c7b1 : decide (((⟨#[43]⟩ : ByteArray) ++ t105).size + 1 ≤ 9223372036854775807) = true := decide_eq_true c7
          try have c7b2 : (9223372036854775807 < ((⟨#[43]⟩ : ByteArray) ++ t105).size + 1) = False := eq_false (Nat.not_lt.2 c7)
          try (have c7b3 := c7b2; simp only [ByteArray.size_append, ba_size_mk, List.size_toArray, List.length_cons, List.length_nil, Nat.zero_add, Nat.reduceAdd] at c7b3)
          replace H := Option.bind_eq_some_iff.mp H
          obtain ⟨t106, A80, H⟩ := H
          replace H : (if (((⟨#[43]⟩ : ByteArray) ++ t105) ++ (⟨#[45]⟩ : ByteArray)).size + t106.size ≤ 9223372036854775807 then (some ((((⟨#[43]⟩ : ByteArray) ++ t105) ++ (⟨#[45]⟩ : ByteArray)) ++ t106)) else (none)) = some r := H
          have A8 := Aside0.mk A80
          clear A80
          by_cases c9 : (((⟨#[43]⟩ : ByteArray) ++ t105) ++ (⟨#[45]⟩ : ByteArray)).size + t106.size ≤ 9223372036854775807
          · rw [if_pos c9] at H
            have c9b0 := eq_true c9
            have c9b1 : decide ((((⟨#[43]⟩ : ByteArray) ++ t105) ++ (⟨#[45]⟩ : ByteArray)).size + t106.size ≤ 9223372036854775807) = true := decide_eq_true c9
            try have c9b2 : (9223372036854775807 < (((⟨#[43]⟩ : ByteArray) ++ t105) ++ (⟨#[45]⟩ : ByteArray)).size + t106.size) = False := eq_false (Nat.not_lt.2 c9)
            try (have c9b3 := c9b2; simp only [ByteArray.size_append, ba_size_mk, List.size_toArray, List.length_cons, List.length_nil, Nat.zero_add, Nat.reduceAdd] at c9b3)
            obtain rfl := Option.some.inj H
            go_enter Tryd.func13, Tryd.ntmps13
            go_wp2_with (first | (go_at_call 14; (with_reducible refine (binary_bigEndian_Uint32.calls _ _ l0 t103 _ ?side1 ?side2 A2.out).mono ?_); (case side1 => repeat (first | exact HR0.out | (with_reducible refine Kd.C_alloc ?_ _) | (with_reducible refine Kd.C_drewN ?_ _) | (with_reducible refine Kd.C_drew ?_))); (case side2 => exact HC0.out); rintro e w10 ⟨rfl, hb⟩; have n0_ := Aside0.mk (below_step (by repeat (first | (with_reducible first | exact HB.out | apply below_alloc | apply pw_below_drewN | apply below_drew1) | exact HB.out)) hb); clear HB; have HB := n0_; clear n0_; (try clear hb); (try clear hb2); (try clear hk); (try clear hi); have p104 : 0 ≤ (4 : Int) := (by omega); have q104 : 4 < (l0.length : Int) := of_decide_eq_true (by first | (with_reducible assumption) | assumption); obtain ⟨ad104, e104, hx104_0⟩ := Kd.at_int HR0.out 4 p104 q104; cases e104; (try simp only [show (4 : Int).toNat = 4 from rfl, Nat.reduceMul, Nat.reduceEqDiff, Go.Addr.add, ↓reduceIte] at hx104_0); have qi104 : (4 < l0.length) = True := eq_true (by omega); (try rw [show ((4 : Int)).toNat = 4 from rfl] at hx104_0); replace hx104_0 := (HB.out.cell (World.block_lt_of_cell? w _ hx104_0)).trans hx104_0; replace p104 := eq_true p104; replace q104 := eq_true q104) | ((with_reducible refine gate_callee (f := 15) rfl ?_); refine goesL_ (some 20) rfl rfl Tryd.func15 (by kernel_rfl) rfl #[.int .i64 (wrap64 ((wrap64 (t103)) - 2147483648)), .int .i64 2] rfl (by (try simp only [List.map_toArray, List.map_cons, List.map_nil]); first | done | rfl | (simp only [List.length_drop, List.length_take]; rfl)) ?_; (with_reducible refine (converters_zzPadded.calls k (wrap64 ((wrap64 (t103)) - 2147483648)) 2 t105 _ A5.out ?side99).mono ?_); (case side99 => exact HT.out _ (by repeat (first | (with_reducible first | exact HB.out | apply below_alloc | apply pw_below_drewN | apply below_drew1) | exact HB.out))); rintro e w11 ⟨rfl, hb⟩; refine ⟨_, rfl, ?_⟩; have n0_ := Aside0.mk (below_step (by repeat (first | (with_reducible first | exact HB.out | apply below_alloc | apply pw_below_drewN | apply below_drew1) | exact HB.out)) hb); clear HB; have HB := n0_; clear n0_; (try clear hb); (try clear hb2); (try clear hk); (try clear hi)) | ((with_reducible refine gate_callee (f := 15) rfl ?_); refine goesL_ (some 25) rfl rfl Tryd.func15 (by kernel_rfl) rfl #[.int .i64 (((rd l0 4) - 60) % 256), .int .i64 2] rfl (by (try simp only [List.map_toArray, List.map_cons, List.map_nil]); first | done | rfl | (simp only [List.length_drop, List.length_take]; rfl)) ?_; (with_reducible refine (converters_zzPadded.calls k (((rd l0 4) - 60) % 256) 2 t106 _ A8.out ?side99).mono ?_); (case side99 => exact HT.out _ (by repeat (first | (with_reducible first | exact HB.out | apply below_alloc | apply pw_below_drewN | apply below_drew1) | exact HB.out))); rintro e w12 ⟨rfl, hb⟩; refine ⟨_, rfl, ?_⟩; have n0_ := Aside0.mk (below_step (by repeat (first | (with_reducible first | exact HB.out | apply below_alloc | apply pw_below_drewN | apply below_drew1) | exact HB.out)) hb); clear HB; have HB := n0_; clear n0_; (try clear hb); (try clear hb2); (try clear hk); (try clear hi)))
            go_ret
            exact ⟨by first | rfl | (simp [errW_none, errW_some] <;> rfl) | (simp [*, errW_none, errW_some] <;> rfl), by repeat (first | (with_reducible first | exact HB.out | apply below_alloc | apply pw_below_drewN | apply below_drew1) | exact HB.out)⟩
          · rw [if_neg c9] at H
            exact absurd H (by simp)
        · rw [if_neg c7] at H
          exact absurd H (by simp)
      · rw [if_neg c6] at H
        exact absurd H (by simp)
    · rw [if_neg c4] at H
      exact absurd H (by simp)
  · rw [if_neg c3] at H
    have c3b0 : decide (0 ≤ (wrap64 ((wrap64 (t103)) - 2147483648))) = false := decide_eq_false c3
    clear c3
    by_cases c13 : 4 < (l0.length : Int)
    · rw [if_pos c13] at H
      have c13b0 : decide (4 < (l0.length : Int)) = true := decide_eq_true c13
      have c13b1 : decide (4 < l0.length) = true := decide_eq_true (by omega)
      clear c13
      replace H := Option.bind_eq_some_iff.mp H
      obtain ⟨t108, A140, H⟩ := H
      replace H : (if 1 + t108.size ≤ 9223372036854775807 then (if ((⟨#[45]⟩ : ByteArray) ++ t108).size + 1 ≤ 9223372036854775807 then ((converters_zzPadded.f k (((rd l0 4) - 40) % 256) 2).bind fun t109 => (if (((⟨#[45]⟩ : ByteArray) ++ t108) ++ (⟨#[45]⟩ : ByteArray)).size + t109.size ≤ 9223372036854775807 then (some ((((⟨#[45]⟩ : ByteArray) ++ t108) ++ (⟨#[45]⟩ : ByteArray)) ++ t109)) else (none))) else (none)) else (none)) = some r := H
      have A14 := Aside0.mk A140
      clear A140
      by_cases c15 : 1 + t108.size ≤ 9223372036854775807
      · rw [if_pos c15] at H
        have c15b0 := eq_true c15
        have c15b1 : decide (1 + t108.size ≤ 9223372036854775807) = true := decide_eq_true c15
        try have c15b2 : (9223372036854775807 < 1 + t108.size) = False := eq_false (Nat.not_lt.2 c15)
        by_cases c16 : ((⟨#[45]⟩ : ByteArray) ++ t108).size + 1 ≤ 9223372036854775807
        · rw [if_pos c16] at H
          have c16b0 := eq_true c16
          have c16b1 : decide (((⟨#[45]⟩ : ByteArray) ++ t108).size + 1 ≤ 9223372036854775807) = true := decide_eq_true c16
          try have c16b2 : (9223372036854775807 < ((⟨#[45]⟩ : ByteArray) ++ t108).size + 1) = False := eq_false (Nat.not_lt.2 c16)
          try (have c16b3 := c16b2; simp only [ByteArray.size_append, ba_size_mk, List.size_toArray, List.length_cons, List.length_nil, Nat.zero_add, Nat.reduceAdd] at c16b3)
          replace H := Option.bind_eq_some_iff.mp H
          obtain ⟨t109, A170, H⟩ := H
          replace H : (if (((⟨#[45]⟩ : ByteArray) ++ t108) ++ (⟨#[45]⟩ : ByteArray)).size + t109.size ≤ 9223372036854775807 then (some ((((⟨#[45]⟩ : ByteArray) ++ t108) ++ (⟨#[45]⟩ : ByteArray)) ++ t109)) else (none)) = some r := H
          have A17 := Aside0.mk A170
          clear A170
          by_cases c18 : (((⟨#[45]⟩ : ByteArray) ++ t108) ++ (⟨#[45]⟩ : ByteArray)).size + t109.size ≤ 9223372036854775807
          · rw [if_pos c18] at H
            have c18b0 := eq_true c18
            have c18b1 : decide ((((⟨#[45]⟩ : ByteArray) ++ t108) ++ (⟨#[45]⟩ : ByteArray)).size + t109.size ≤ 9223372036854775807) = true := decide_eq_true c18
            try have c18b2 : (9223372036854775807 < (((⟨#[45]⟩ : ByteArray) ++ t108) ++ (⟨#[45]⟩ : ByteArray)).size + t109.size) = False := eq_false (Nat.not_lt.2 c18)
            try (have c18b3 := c18b2; simp only [ByteArray.size_append, ba_size_mk, List.size_toArray, List.length_cons, List.length_nil, Nat.zero_add, Nat.reduceAdd] at c18b3)
            obtain rfl := Option.some.inj H
            go_enter Tryd.func13, Tryd.ntmps13
            go_wp2_with (first | (go_at_call 14; (with_reducible refine (binary_bigEndian_Uint32.calls _ _ l0 t103 _ ?side1 ?side2 A2.out).mono ?_); (case side1 => repeat (first | exact HR0.out | (with_reducible refine Kd.C_alloc ?_ _) | (with_reducible refine Kd.C_drewN ?_ _) | (with_reducible refine Kd.C_drew ?_))); (case side2 => exact HC0.out); rintro e w19 ⟨rfl, hb⟩; have n0_ := Aside0.mk (below_step (by repeat (first | (with_reducible first | exact HB.out | apply below_alloc | apply pw_below_drewN | apply below_drew1) | exact HB.out)) hb); clear HB; have HB := n0_; clear n0_; (try clear hb); (try clear hb2); (try clear hk); (try clear hi); have p107 : 0 ≤ (4 : Int) := (by omega); have q107 : 4 < (l0.length : Int) := of_decide_eq_true (by first | (with_reducible assumption) | assumption); obtain ⟨ad107, e107, hx107_0⟩ := Kd.at_int HR0.out 4 p107 q107; cases e107; (try simp only [show (4 : Int).toNat = 4 from rfl, Nat.reduceMul, Nat.reduceEqDiff, Go.Addr.add, ↓reduceIte] at hx107_0); have qi107 : (4 < l0.length) = True := eq_true (by omega); (try rw [show ((4 : Int)).toNat = 4 from rfl] at hx107_0); replace hx107_0 := (HB.out.cell (World.block_lt_of_cell? w _ hx107_0)).trans hx107_0; replace p107 := eq_true p107; replace q107 := eq_true q107) | ((with_reducible refine gate_callee (f := 15) rfl ?_); refine goesL_ (some 34) rfl rfl Tryd.func15 (by kernel_rfl) rfl #[.int .i64 (wrap64 (-(wrap64 ((wrap64 (t103)) - 2147483648)))), .int .i64 2] rfl (by (try simp only [List.map_toArray, List.map_cons, List.map_nil]); first | done | rfl | (simp only [List.length_drop, List.length_take]; rfl)) ?_; (with_reducible refine (converters_zzPadded.calls k (wrap64 (-(wrap64 ((wrap64 (t103)) - 2147483648)))) 2 t108 _ A14.out ?side99).mono ?_); (case side99 => exact HT.out _ (by repeat (first | (with_reducible first | exact HB.out | apply below_alloc | apply pw_below_drewN | apply below_drew1) | exact HB.out))); rintro e w20 ⟨rfl, hb⟩; refine ⟨_, rfl, ?_⟩; have n0_ := Aside0.mk (below_step (by repeat (first | (with_reducible first | exact HB.out | apply below_alloc | apply pw_below_drewN | apply below_drew1) | exact HB.out)) hb); clear HB; have HB := n0_; clear n0_; (try clear hb); (try clear hb2); (try clear hk); (try clear hi)) | ((with_reducible refine gate_callee (f := 15) rfl ?_); refine goesL_ (some 39) rfl rfl Tryd.func15 (by kernel_rfl) rfl #[.int .i64 (((rd l0 4) - 40) % 256), .int .i64 2] rfl (by (try simp only [List.map_toArray, List.map_cons, List.map_nil]); first | done | rfl | (simp only [List.length_drop, List.length_take]; rfl)) ?_; (with_reducible refine (converters_zzPadded.calls k (((rd l0 4) - 40) % 256) 2 t109 _ A17.out ?side99).mono ?_); (case side99 => exact HT.out _ (by repeat (first | (with_reducible first | exact HB.out | apply below_alloc | apply pw_below_drewN | apply below_drew1) | exact HB.out))); rintro e w21 ⟨rfl, hb⟩; refine ⟨_, rfl, ?_⟩; have n0_ := Aside0.mk (below_step (by repeat (first | (with_reducible first | exact HB.out | apply below_alloc | apply pw_below_drewN | apply below_drew1) | exact HB.out)) hb); clear HB; have HB := n0_; clear n0_; (try clear hb); (try clear hb2); (try clear hk); (try clear hi)))
            go_ret
            exact ⟨by first | rfl | (simp [errW_none, errW_some] <;> rfl) | (simp [*, errW_none, errW_some] <;> rfl), by repeat (first | (with_reducible first | exact HB.out | apply below_alloc | apply pw_below_drewN | apply below_drew1) | exact HB.out)⟩
          · rw [if_neg c18] at H
            exact absurd H (by simp)
        · rw [if_neg c16] at H
          exact absurd H (by simp)
      · rw [if_neg c15] at H
        exact absurd H (by simp)
    · rw [if_neg c13] at H
      exact absurd H (by simp)

/-! ### impl_IntervalYears: function 9 -/
def impl_IntervalYears.f (k : Nat) (l0 : List Int) : Option (ByteArray) := if (l0.length : Int) < 5 then (some (⟨#[]⟩ : ByteArray)) else ((bytes_Clone.f l0).bind fun t110 => ((converters_ConvertIntervalYM_DTY.f k t110).bind fun t113 => (some t113)))
theorem impl_IntervalYears.mono : ∀ a0 k, LeO (impl_IntervalYears.f k a0) (impl_IntervalYears.f (k + 1) a0) := by
  intro a0 k
  unfold impl_IntervalYears.f
  repeat' first
      | (with_reducible exact converters_ConvertIntervalYM_DTY.mono _ _)
      | (with_reducible exact LeO.refl _)
      | (with_reducible exact LeO.none _)
      | (with_reducible refine LeO.ite ?_ ?_)
      | (with_reducible refine LeO.bind ?_ (fun _ => ?_))
      | exact converters_ConvertIntervalYM_DTY.mono _ _
      | exact LeO.none _
      | refine LeO.ite ?_ ?_
      | refine LeO.bind ?_ (fun _ => ?_)
set_option maxHeartbeats 8000000 in
set_option maxRecDepth 100000 in
theorem impl_IntervalYears.calls (k : Nat) (A0 : Option Addr) (c0 : Nat) (l0 : List Int) (r : ByteArray) (w : World) (hr0 : Kd.C (Kd.int .u8) w A0 l0.length l0) (hc0 : l0.length ≤ c0) (h : impl_IntervalYears.f k l0 = some r) (htab : Tab w) :
    Calls Tryd.prog 9 #[.slice A0 l0.length c0] w fun e w' => e = .returned (.string r) ∧ Below w.heap.size w w' := by
  have HT := Aside0.mk (tab_all htab)
  clear htab
  have HR0 := Aside0.mk hr0
  have HC0 := Aside0.mk hc0
  clear hr0 hc0
  have HB := Aside0.mk (Below.refl w.heap.size w)
  have H : (if (l0.length : Int) < 5 then (some (⟨#[]⟩ : ByteArray)) else ((bytes_Clone.f l0).bind fun t110 => ((converters_ConvertIntervalYM_DTY.f k t110).bind fun t113 => (some t113)))) = some r := h
  clear h
  by_cases c2 : (l0.length : Int) < 5
  · rw [if_pos c2] at H
    have c2b0 : decide ((l0.length : Int) < 5) = true := decide_eq_true c2
    have c2b1 : decide (l0.length < 5) = true := decide_eq_true (by omega)
    clear c2
    obtain rfl := Option.some.inj H
    go_enter Tryd.func9, Tryd.ntmps9
    go_wp2
    go_ret
    exact ⟨by first | rfl | (simp [errW_none, errW_some] <;> rfl) | (simp [*, errW_none, errW_some] <;> rfl), by repeat (first | (with_reducible first | exact HB.out | apply below_alloc | apply pw_below_drewN | apply below_drew1) | exact HB.out)⟩
  · rw [if_neg c2] at H
    have c2b0 : decide ((l0.length : Int) < 5) = false := decide_eq_false c2
    have c2b1 : decide (l0.length < 5) = false := decide_eq_false (by omega)
    clear c2
    replace H := Option.bind_eq_some_iff.mp H
    obtain ⟨t110, A30, H⟩ := H
    replace H : ((converters_ConvertIntervalYM_DTY.f k t110).bind fun t113 => (some t113)) = some r := H
    have A3 := Aside0.mk A30
    clear A30
    replace H := Option.bind_eq_some_iff.mp H
    obtain ⟨t113, A40, H⟩ := H
    replace H : (some t113) = some r := H
    have A4 := Aside0.mk A40
    clear A40
    obtain rfl := Option.some.inj H
    go_enter Tryd.func9, Tryd.ntmps9
    go_wp2_with (first | ((with_reducible refine gate_callee (f := 11) rfl ?_); refine goesL_ (some 7) rfl rfl Tryd.func11 (by kernel_rfl) rfl #[.slice A0 l0.length c0] rfl (by (try simp only [List.map_toArray, List.map_cons, List.map_nil]); first | done | rfl | (simp only [List.length_drop, List.length_take]; rfl)) ?_; (with_reducible refine (bytes_Clone.calls _ _ l0 t110 _ ?side1 ?side2 A3.out).mono ?_); (case side1 => repeat (first | exact HR0.out | (with_reducible refine Kd.C_alloc ?_ _) | (with_reducible refine Kd.C_drewN ?_ _) | (with_reducible refine Kd.C_drew ?_))); (case side2 => exact HC0.out); rintro e w5 ⟨v111, rfl, ho0, hb⟩; refine ⟨_, rfl, ?_⟩; have n0_ := Aside0.mk (Kd.R_lower ho0 (below_size (by repeat (first | (with_reducible first | exact HB.out | apply below_alloc | apply pw_below_drewN | apply below_drew1) | exact HB.out)))); have n1_ := Aside0.mk (below_step (by repeat (first | (with_reducible first | exact HB.out | apply below_alloc | apply pw_below_drewN | apply below_drew1) | exact HB.out)) hb); clear HB; have HO112 := n0_; have HB := n1_; clear n0_ n1_; (try clear hb); (try clear hb2); (try clear hk); (try clear hi); (try clear ho0); obtain ⟨Ao6, co6, eo6⟩ := Kd.R_slice HO112.out; subst eo6) | ((with_reducible refine gate_callee (f := 13) rfl ?_); refine goesL_ (some 8) rfl rfl Tryd.func13 (by kernel_rfl) rfl #[.slice Ao6 t110.length co6] rfl (by (try simp only [List.map_toArray, List.map_cons, List.map_nil]); first | done | rfl | (simp only [List.length_drop, List.length_take]; rfl)) ?_; (with_reducible refine (converters_ConvertIntervalYM_DTY.calls k _ _ t110 t113 _ ?side1 ?side2 A4.out ?side99).mono ?_); (case side1 => repeat (first | exact (Kd.R_reads' HO112.out).2.2 | (with_reducible refine Kd.C_alloc ?_ _) | (with_reducible refine Kd.C_drewN ?_ _) | (with_reducible refine Kd.C_drew ?_))); (case side2 => exact (Kd.R_reads' HO112.out).2.1); (case side99 => exact HT.out _ (by repeat (first | (with_reducible first | exact HB.out | apply below_alloc | apply pw_below_drewN | apply below_drew1) | exact HB.out))); rintro e w7 ⟨rfl, hb⟩; refine ⟨_, rfl, ?_⟩; have n0_ := Aside0.mk (Kd.R_below (by (with_reducible repeat (first | apply Kd.R_alloc | apply Kd.R_drewN | apply Kd.R_drew)); exact HO112.out) hb); have n1_ := Aside0.mk (below_step (by repeat (first | (with_reducible first | exact HB.out | apply below_alloc | apply pw_below_drewN | apply below_drew1) | exact HB.out)) hb); clear HO112; clear HB; have HO112 := n0_; have HB := n1_; clear n0_ n1_; (try clear hb); (try clear hb2); (try clear hk); (try clear hi)))
    go_ret
    exact ⟨by first | rfl | (simp [errW_none, errW_some] <;> rfl) | (simp [*, errW_none, errW_some] <;> rfl), by repeat (first | (with_reducible first | exact HB.out | apply below_alloc | apply pw_below_drewN | apply below_drew1) | exact HB.out)⟩

/-! ### laws_intervalsLive: function 6 -/
def laws_intervalsLive.f (k : Nat)  : Option (Bool) := (impl_IntervalYears.f k (([128, 0, 0, 3, 64] : List Int))).bind fun t117 => (some (t117.toList == ([43, 48, 51, 45, 48, 52] : List UInt8)))
theorem laws_intervalsLive.mono : ∀ k, LeO (laws_intervalsLive.f k ) (laws_intervalsLive.f (k + 1) ) := by
  intro  k
  unfold laws_intervalsLive.f
  repeat' first
      | (with_reducible exact impl_IntervalYears.mono _ _)
      | (with_reducible exact LeO.refl _)
      | (with_reducible exact LeO.none _)
      | (with_reducible refine LeO.ite ?_ ?_)
      | (with_reducible refine LeO.bind ?_ (fun _ => ?_))
      | exact impl_IntervalYears.mono _ _
      | exact LeO.none _
      | refine LeO.ite ?_ ?_
      | refine LeO.bind ?_ (fun _ => ?_)
set_option maxHeartbeats 8000000 in
set_option maxRecDepth 100000 in
theorem laws_intervalsLive.calls (k : Nat)  (r : Bool) (w : World) (h : laws_intervalsLive.f k  = some r) (htab : Tab w) :
    Calls Tryd.prog 6 #[] w fun e w' => e = .returned (.bool r) ∧ Below w.heap.size w w' := by
  have HT := Aside0.mk (tab_all htab)
  clear htab
  have HB := Aside0.mk (Below.refl w.heap.size w)
  have H : ((impl_IntervalYears.f k (([128, 0, 0, 3, 64] : List Int))).bind fun t117 => (some (t117.toList == ([43, 48, 51, 45, 48, 52] : List UInt8)))) = some r := h
  clear h
  obtain ⟨y114, hy114⟩ : ∃ y_ : List Int, y_ = (([128, 0, 0, 3, 64] : List Int)) := ⟨_, rfl⟩
  replace H : ((impl_IntervalYears.f k y114).bind fun t117 => (some (t117.toList == ([43, 48, 51, 45, 48, 52] : List UInt8)))) = some r := by first | (rw [hy114]; with_reducible exact H) | (have H2_ := (Option.bind_some _ _).symm.trans H; rw [hy114]; with_reducible exact H2_) | (have H2_ := (Option.bind_some _ _).symm.trans H; with_reducible exact H2_) | with_reducible exact H | (rw [hy114]; exact H) | exact H
  have Ny114 := Aside0.mk hy114
  clear hy114
  replace H := Option.bind_eq_some_iff.mp H
  obtain ⟨t117, A10, H⟩ := H
  replace H : (some (t117.toList == ([43, 48, 51, 45, 48, 52] : List UInt8))) = some r := H
  have A1 := Aside0.mk A10
  clear A10
  obtain rfl := Option.some.inj H
  go_enter Tryd.func6, Tryd.ntmps6
  go_wp2_with (first | ((with_reducible refine gate_dst (N := 1) rfl ?_); refine Kd.R_lit (Kd.int .u8) _ 5 ?hg (N := 1) ?hd (xs := ([128, 0, 0, 3, 64] : List Int)) (inner := [.int .u8 128, .int .u8 0, .int .u8 0, .int .u8 3, .int .u8 64]) (ok := fun _ => True) (okp := fun _ => True) ?hr ?hp (fun _ hk => hk) trivial (Below.refl _ _) (Nat.le_refl _) (by simp) ?_; (case hd => rfl); (case hg => rfl); (case hr => first | (go_simp; done) | (go_simp; rfl)); (case hp => exact (Reps.one (show Kd.M (Kd.int .u8) _ _ _ 128 [.int .u8 128] from rfl) (Reps.one (show Kd.M (Kd.int .u8) _ _ _ 0 [.int .u8 0] from rfl) (Reps.one (show Kd.M (Kd.int .u8) _ _ _ 0 [.int .u8 0] from rfl) (Reps.one (show Kd.M (Kd.int .u8) _ _ _ 3 [.int .u8 3] from rfl) (Reps.one (show Kd.M (Kd.int .u8) _ _ _ 64 [.int .u8 64] from rfl) (Reps.none _ _))))))); intro v115 w2 ho3 hb hg_ hnew_; clear hg_ hnew_; (first | rw [← Ny114.out] at ho3 | (simp only [Int.reduceToNat] at ho3; rw [← Ny114.out] at ho3)); have n0_ := Aside0.mk (Kd.R_lower ho3 (below_size (by repeat (first | (with_reducible first | exact HB.out | apply below_alloc | apply pw_below_drewN | apply below_drew1) | exact HB.out)))); have n1_ := Aside0.mk (below_step (by repeat (first | (with_reducible first | exact HB.out | apply below_alloc | apply pw_below_drewN | apply below_drew1) | exact HB.out)) hb); clear HB; have HO116 := n0_; have HB := n1_; clear n0_ n1_; clear hb ho3; obtain ⟨Ao4, co4, eo4⟩ := Kd.R_slice HO116.out; subst eo4) | ((with_reducible refine gate_callee (f := 9) rfl ?_); refine goesL_ (some 2) rfl rfl Tryd.func9 (by kernel_rfl) rfl #[.slice Ao4 y114.length co4] rfl (by (try simp only [List.map_toArray, List.map_cons, List.map_nil]); first | done | rfl | (simp only [List.length_drop, List.length_take]; rfl)) ?_; (with_reducible refine (impl_IntervalYears.calls k _ _ y114 t117 _ ?side1 ?side2 A1.out ?side99).mono ?_); (case side1 => repeat (first | exact (Kd.R_reads' HO116.out).2.2 | (with_reducible refine Kd.C_alloc ?_ _) | (with_reducible refine Kd.C_drewN ?_ _) | (with_reducible refine Kd.C_drew ?_))); (case side2 => exact (Kd.R_reads' HO116.out).2.1); (case side99 => exact HT.out _ (by repeat (first | (with_reducible first | exact HB.out | apply below_alloc | apply pw_below_drewN | apply below_drew1) | exact HB.out))); rintro e w5 ⟨rfl, hb⟩; refine ⟨_, rfl, ?_⟩; have n0_ := Aside0.mk (Kd.R_below (by (with_reducible repeat (first | apply Kd.R_alloc | apply Kd.R_drewN | apply Kd.R_drew)); exact HO116.out) hb); have n1_ := Aside0.mk (below_step (by repeat (first | (with_reducible first | exact HB.out | apply below_alloc | apply pw_below_drewN | apply below_drew1) | exact HB.out)) hb); clear HO116; clear HB; have HO116 := n0_; have HB := n1_; clear n0_ n1_; (try clear hb); (try clear hb2); (try clear hk); (try clear hi)))
  go_ret
  exact ⟨by first | rfl | (simp [errW_none, errW_some] <;> rfl) | (simp [*, errW_none, errW_some] <;> rfl), by repeat (first | (with_reducible first | exact HB.out | apply below_alloc | apply pw_below_drewN | apply below_drew1) | exact HB.out)⟩

end Go.Proofs.YtinggdcfhlbahaaDoor.ZP
