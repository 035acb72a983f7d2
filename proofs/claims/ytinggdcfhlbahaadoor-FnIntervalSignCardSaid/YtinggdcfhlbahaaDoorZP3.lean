-- Written by a program of this session (wip/xprint.py), which calls the kit's print.
import Derived.Test.YtinggdcfhlbahaaDoorZP0
import Derived.Test.YtinggdcfhlbahaaDoorZP1
import Derived.Test.YtinggdcfhlbahaaDoorZP2
import Derived.Test.YtinggdcfhlbahaaDoorTab
namespace Go.Proofs.YtinggdcfhlbahaaDoor.ZP
open Go.RowKit Go.Proofs.YtinggdcfhlbahaaDoor.X Go.Proofs.YtinggdcfhlbahaaDoorW.PrintWords Go.Proofs.YtinggdcfhlbahaaDoorW.PrintLast Go.Proofs.YtinggdcfhlbahaaDoorW.PrintMore
attribute [local go_sem] max2_int min2_int max_two min_two max_three min_three max_four min_four   -- for this text's walks alone
set_option linter.unusedVariables false
set_option linter.unusedSimpArgs false

/-! ### laws_FnIntervalCut: function 3 -/
def laws_FnIntervalCut.j0 : Nat → Bool → Bool → Int → Int → Int → Int → Int → Int → Int → Bool → Int → Int → Int → Int → Int → Int → Int → Option (Bool)
  | 0, _, _, _, _, _, _, _, _, _, _, _, _, _, _, _, _, _ => none
  | k + 1, x23, x178000, x178001, x178002, x178003, x178004, x178005, x178006, x178007, x179000, x179001, x179002, x179003, x179004, x179005, x179006, x179007 => if x23 = true then ((laws_intervalsLive.f k).bind fun t181 => (some t181)) else ((spec_IntervalDays.f x178000 x178001 x178002 x178003 x178004 x178005 x178006 x178007).bind fun t182 => ((impl_IntervalDays.f k t182).bind fun t185 => ((spec_IntervalDays.f x179000 x179001 x179002 x179003 x179004 x179005 x179006 x179007).bind fun t186 => ((impl_IntervalDays.f k t186).bind fun t189 => (if t185.toList = t189.toList then ((laws_intervalsLive.f k).bind fun t190 => (some t190)) else (none))))))
def laws_FnIntervalCut.f (k : Nat) (a0_0 : Bool) (a0_1 : Int) (a0_2 : Int) (a0_3 : Int) (a0_4 : Int) (a0_5 : Int) (a0_6 : Int) (a0_7 : Int) (a1 : Int) : Option (Bool) := (laws_intervalRight.f a0_0 a0_1 a0_2 a0_3 a0_4 a0_5 a0_6 a0_7).bind fun t179 => (if t179 = true then ((laws_intervalRight.f a0_0 a0_1 a0_2 a0_3 a0_4 (wrap64 ((wrap64 ((wrap64 (Int.tdiv a0_5 1000)) * 1000)) + (wrap64 (Int.tmod a1 1000)))) a0_6 a0_7).bind fun t180 => (laws_FnIntervalCut.j0 k (!t180) a0_0 a0_1 a0_2 a0_3 a0_4 a0_5 a0_6 a0_7 a0_0 a0_1 a0_2 a0_3 a0_4 (wrap64 ((wrap64 ((wrap64 (Int.tdiv a0_5 1000)) * 1000)) + (wrap64 (Int.tmod a1 1000)))) a0_6 a0_7)) else (laws_FnIntervalCut.j0 k true a0_0 a0_1 a0_2 a0_3 a0_4 a0_5 a0_6 a0_7 a0_0 a0_1 a0_2 a0_3 a0_4 (wrap64 ((wrap64 ((wrap64 (Int.tdiv a0_5 1000)) * 1000)) + (wrap64 (Int.tmod a1 1000)))) a0_6 a0_7))
theorem laws_FnIntervalCut.mono_l : ∀ k, (∀ y0 y1 y2 y3 y4 y5 y6 y7 y8 y9 y10 y11 y12 y13 y14 y15 y16, LeO (laws_FnIntervalCut.j0 k y0 y1 y2 y3 y4 y5 y6 y7 y8 y9 y10 y11 y12 y13 y14 y15 y16) (laws_FnIntervalCut.j0 (k + 1) y0 y1 y2 y3 y4 y5 y6 y7 y8 y9 y10 y11 y12 y13 y14 y15 y16))
  | 0 => fun _ _ _ _ _ _ _ _ _ _ _ _ _ _ _ _ _ r h => by simp [laws_FnIntervalCut.j0] at h
  | k + 1 => by
    have ih0 := laws_FnIntervalCut.mono_l k
    · intro y0 y1 y2 y3 y4 y5 y6 y7 y8 y9 y10 y11 y12 y13 y14 y15 y16
      unfold laws_FnIntervalCut.j0
      repeat' first
      | (with_reducible exact ih0 _ _ _ _ _ _ _ _ _ _ _ _ _ _ _ _ _)
      | (with_reducible exact impl_IntervalDays.mono _ _)
      | (with_reducible exact laws_intervalsLive.mono _)
      | (with_reducible exact LeO.refl _)
      | (with_reducible exact LeO.none _)
      | (with_reducible refine LeO.ite ?_ ?_)
      | (with_reducible refine LeO.bind ?_ (fun _ => ?_))
      | exact ih0 _ _ _ _ _ _ _ _ _ _ _ _ _ _ _ _ _
      | exact impl_IntervalDays.mono _ _
      | exact laws_intervalsLive.mono _
      | exact LeO.none _
      | refine LeO.ite ?_ ?_
      | refine LeO.bind ?_ (fun _ => ?_)
theorem laws_FnIntervalCut.mono : ∀ a0 a1 a2 a3 a4 a5 a6 a7 a8 k, LeO (laws_FnIntervalCut.f k a0 a1 a2 a3 a4 a5 a6 a7 a8) (laws_FnIntervalCut.f (k + 1) a0 a1 a2 a3 a4 a5 a6 a7 a8) := by
  intro a0 a1 a2 a3 a4 a5 a6 a7 a8 k
  have ih0 := laws_FnIntervalCut.mono_l k
  unfold laws_FnIntervalCut.f
  repeat' first
      | (with_reducible exact ih0 _ _ _ _ _ _ _ _ _ _ _ _ _ _ _ _ _)
      | (with_reducible exact impl_IntervalDays.mono _ _)
      | (with_reducible exact laws_intervalsLive.mono _)
      | (with_reducible exact LeO.refl _)
      | (with_reducible exact LeO.none _)
      | (with_reducible refine LeO.ite ?_ ?_)
      | (with_reducible refine LeO.bind ?_ (fun _ => ?_))
      | exact ih0 _ _ _ _ _ _ _ _ _ _ _ _ _ _ _ _ _
      | exact impl_IntervalDays.mono _ _
      | exact laws_intervalsLive.mono _
      | exact LeO.none _
      | refine LeO.ite ?_ ?_
      | refine LeO.bind ?_ (fun _ => ?_)
def laws_FnIntervalCut.T5 : Bool × List (List Nat × List Nat) := (true, [([], []), ([0], [0]), ([1, 1], [1]), ([], []), ([3, 2], [3]), ([4, 4], [4]), ([2, 5], [2, 5]), ([6, 5], [6]), ([7, 7], [7]), ([7, 8], [7, 8]), ([9, 8, 0, 1, 2, 3, 4, 5, 6, 7, 8, 9], [9])])
def laws_FnIntervalCut.B5 : List Nat := [0, 1, 3, 0, 15, 31, 63, 127, 255, 511, 1023]
theorem laws_FnIntervalCut.tab5 : rtab .any (opsOf Tryd.f3 5) = laws_FnIntervalCut.T5 := by kernel_rfl
theorem laws_FnIntervalCut.bits5 : waitsOk laws_FnIntervalCut.T5.2 laws_FnIntervalCut.B5 = true := by kernel_rfl
set_option maxHeartbeats 8000000 in
set_option maxRecDepth 100000 in
theorem laws_FnIntervalCut.calls (k : Nat) (a0_0 : Bool) (a0_1 : Int) (a0_2 : Int) (a0_3 : Int) (a0_4 : Int) (a0_5 : Int) (a0_6 : Int) (a0_7 : Int) (a1 : Int) (r : Bool) (w : World) (h : laws_FnIntervalCut.f k a0_0 a0_1 a0_2 a0_3 a0_4 a0_5 a0_6 a0_7 a1 = some r) (htab : Tab w) :
    Calls Tryd.prog 3 #[.agg #[.bool a0_0, .int .i64 a0_1, .int .i64 a0_2, .int .i64 a0_3, .int .i64 a0_4, .int .i64 a0_5, .int .i64 a0_6, .int .i64 a0_7], .int .u16 a1] w fun e w' => e = .returned (.bool r) ∧ Below w.heap.size w w' := by
  have HT := Aside0.mk (tab_all htab)
  clear htab
  have hu23 := Tryd.underlying23
  have HB := Aside0.mk (Below.refl w.heap.size w)
  have H : ((laws_intervalRight.f a0_0 a0_1 a0_2 a0_3 a0_4 a0_5 a0_6 a0_7).bind fun t179 => (if t179 = true then ((laws_intervalRight.f a0_0 a0_1 a0_2 a0_3 a0_4 (wrap64 ((wrap64 ((wrap64 (Int.tdiv a0_5 1000)) * 1000)) + (wrap64 (Int.tmod a1 1000)))) a0_6 a0_7).bind fun t180 => (laws_FnIntervalCut.j0 k (!t180) a0_0 a0_1 a0_2 a0_3 a0_4 a0_5 a0_6 a0_7 a0_0 a0_1 a0_2 a0_3 a0_4 (wrap64 ((wrap64 ((wrap64 (Int.tdiv a0_5 1000)) * 1000)) + (wrap64 (Int.tmod a1 1000)))) a0_6 a0_7)) else (laws_FnIntervalCut.j0 k true a0_0 a0_1 a0_2 a0_3 a0_4 a0_5 a0_6 a0_7 a0_0 a0_1 a0_2 a0_3 a0_4 (wrap64 ((wrap64 ((wrap64 (Int.tdiv a0_5 1000)) * 1000)) + (wrap64 (Int.tmod a1 1000)))) a0_6 a0_7))) = some r := h
  clear h
  have HC3 := Aside0.mk H
  clear H
  go_enter Tryd.func3, Tryd.ntmps3
  go_upto_region 3 with (first | ((with_reducible refine gate_dst (N := 2) rfl ?_); refine box_event ?hg (N := 2) ?hd (cs := #[.bool a0_0, .int .i64 a0_1, .int .i64 a0_2, .int .i64 a0_3, .int .i64 a0_4, .int .i64 a0_5, .int .i64 a0_6, .int .i64 a0_7]) (t := 23) ?hr ?_; (case hd => rfl); (case hg => rfl); (case hr => first | (go_simp; done) | (go_simp; rfl)); intro gb177 hg w4 hbox hb; have n0_ := Aside0.mk (below_step (by repeat (first | (with_reducible first | exact HB.out | apply below_alloc | apply pw_below_drewN | apply below_drew1) | exact HB.out)) hb); have n1_ := Aside0.mk (hbox); have n2_ := Aside0.mk ((by rw [hg]; exact (below_size (by repeat (first | (with_reducible first | exact HB.out | apply below_alloc | apply pw_below_drewN | apply below_drew1) | exact HB.out))) : w.heap.size ≤ gb177)); have n3_ := Aside0.mk ((by rw [hg]; exact (below_size (by repeat (first | (with_reducible first | exact HB.out | apply below_alloc | apply pw_below_drewN | apply below_drew1) | exact HB.out))) : w.heap.size ≤ gb177)); clear HB; have HB := n0_; have BK177 := n1_; have GW177 := n2_; have GE177 := n3_; clear n0_ n1_ n2_ n3_; clear hb hbox hg; have hcz5_0 : w4.cell? ⟨gb177, 0, none⟩ = some (.bool a0_0) := (blk_cell BK177.out 0).trans rfl; have hcz5_1 : w4.cell? ⟨gb177, 1, none⟩ = some (.int .i64 a0_1) := (blk_cell BK177.out 1).trans rfl; have hcz5_2 : w4.cell? ⟨gb177, 2, none⟩ = some (.int .i64 a0_2) := (blk_cell BK177.out 2).trans rfl; have hcz5_3 : w4.cell? ⟨gb177, 3, none⟩ = some (.int .i64 a0_3) := (blk_cell BK177.out 3).trans rfl; have hcz5_4 : w4.cell? ⟨gb177, 4, none⟩ = some (.int .i64 a0_4) := (blk_cell BK177.out 4).trans rfl; have hcz5_5 : w4.cell? ⟨gb177, 5, none⟩ = some (.int .i64 a0_5) := (blk_cell BK177.out 5).trans rfl; have hcz5_6 : w4.cell? ⟨gb177, 6, none⟩ = some (.int .i64 a0_6) := (blk_cell BK177.out 6).trans rfl; have hcz5_7 : w4.cell? ⟨gb177, 7, none⟩ = some (.int .i64 a0_7) := (blk_cell BK177.out 7).trans rfl; have hfz5_0 := blk_frozen BK177.out 0; have hfz5_1 := blk_frozen BK177.out 1; have hfz5_2 := blk_frozen BK177.out 2; have hfz5_3 := blk_frozen BK177.out 3; have hfz5_4 := blk_frozen BK177.out 4; have hfz5_5 := blk_frozen BK177.out 5; have hfz5_6 := blk_frozen BK177.out 6; have hfz5_7 := blk_frozen BK177.out 7) | ((with_reducible refine gate_dst (N := 5) rfl ?_); refine box_event ?hg (N := 5) ?hd (cs := #[.bool false, .int .i64 0, .int .i64 0, .int .i64 0, .int .i64 0, .int .i64 0, .int .i64 0, .int .i64 0]) (t := 23) ?hr ?_; (case hd => rfl); (case hg => rfl); (case hr => first | (go_simp; done) | (go_simp; rfl)); intro gb178 hg w6 hbox hb; have n0_ := Aside0.mk (blk_below (g := gb177) (o := .cells #[.bool a0_0, .int .i64 a0_1, .int .i64 a0_2, .int .i64 a0_3, .int .i64 a0_4, .int .i64 a0_5, .int .i64 a0_6, .int .i64 a0_7] 23 (0, 0)) (by (with_reducible repeat (first | refine blk_drewN ?_ _ | refine blk_drew ?_ | refine blk_alloc ?_ _)); exact BK177.out) hb); have n1_ := Aside0.mk (below_step (by repeat (first | (with_reducible first | exact HB.out | apply below_alloc | apply pw_below_drewN | apply below_drew1 | refine below_set ?_ GE177.out) | exact HB.out)) hb); have n2_ := Aside0.mk (hbox); have n3_ := Aside0.mk ((by rw [hg]; exact (below_size (by repeat (first | (with_reducible first | exact HB.out | apply below_alloc | apply pw_below_drewN | apply below_drew1 | refine below_set ?_ GE177.out) | exact HB.out))) : w.heap.size ≤ gb178)); have n4_ := Aside0.mk ((by rw [hg]; exact (below_size (by repeat (first | (with_reducible first | exact HB.out | apply below_alloc | apply pw_below_drewN | apply below_drew1 | refine below_set ?_ GE177.out) | exact HB.out))) : w.heap.size ≤ gb178)); have n5_ := Aside0.mk ((by rw [hg]; exact Nat.ne_of_lt (blk_lt (g := gb177) (o := .cells #[.bool a0_0, .int .i64 a0_1, .int .i64 a0_2, .int .i64 a0_3, .int .i64 a0_4, .int .i64 a0_5, .int .i64 a0_6, .int .i64 a0_7] 23 (0, 0)) (by (with_reducible repeat (first | refine blk_drewN ?_ _ | refine blk_drew ?_ | refine blk_alloc ?_ _)); exact BK177.out)) : gb177 ≠ gb178)); have n6_ := Aside0.mk ((by rw [hg]; exact Nat.ne_of_gt (blk_lt (g := gb177) (o := .cells #[.bool a0_0, .int .i64 a0_1, .int .i64 a0_2, .int .i64 a0_3, .int .i64 a0_4, .int .i64 a0_5, .int .i64 a0_6, .int .i64 a0_7] 23 (0, 0)) (by (with_reducible repeat (first | refine blk_drewN ?_ _ | refine blk_drew ?_ | refine blk_alloc ?_ _)); exact BK177.out)) : gb178 ≠ gb177)); clear BK177; clear HB; have BK177 := n0_; have HB := n1_; have BK178 := n2_; have GW178 := n3_; have GE178 := n4_; have NB177_178 := n5_; have NB178_177 := n6_; clear n0_ n1_ n2_ n3_ n4_ n5_ n6_; clear hb hbox hg; have hnb7 := NB178_177.out; have hnc7 := NB177_178.out; have hcz8_0 : w6.cell? ⟨gb178, 0, none⟩ = some (.bool false) := (blk_cell BK178.out 0).trans rfl; have hcz8_1 : w6.cell? ⟨gb178, 1, none⟩ = some (.int .i64 0) := (blk_cell BK178.out 1).trans rfl; have hcz8_2 : w6.cell? ⟨gb178, 2, none⟩ = some (.int .i64 0) := (blk_cell BK178.out 2).trans rfl; have hcz8_3 : w6.cell? ⟨gb178, 3, none⟩ = some (.int .i64 0) := (blk_cell BK178.out 3).trans rfl; have hcz8_4 : w6.cell? ⟨gb178, 4, none⟩ = some (.int .i64 0) := (blk_cell BK178.out 4).trans rfl; have hcz8_5 : w6.cell? ⟨gb178, 5, none⟩ = some (.int .i64 0) := (blk_cell BK178.out 5).trans rfl; have hcz8_6 : w6.cell? ⟨gb178, 6, none⟩ = some (.int .i64 0) := (blk_cell BK178.out 6).trans rfl; have hcz8_7 : w6.cell? ⟨gb178, 7, none⟩ = some (.int .i64 0) := (blk_cell BK178.out 7).trans rfl; have hfz8_0 := blk_frozen BK178.out 0; have hfz8_1 := blk_frozen BK178.out 1; have hfz8_2 := blk_frozen BK178.out 2; have hfz8_3 := blk_frozen BK178.out 3; have hfz8_4 := blk_frozen BK178.out 4; have hfz8_5 := blk_frozen BK178.out 5; have hfz8_6 := blk_frozen BK178.out 6; have hfz8_7 := blk_frozen BK178.out 7; have hcz9_0 : w6.cell? ⟨gb177, 0, none⟩ = some (.bool a0_0) := (blk_cell BK177.out 0).trans rfl; have hcz9_1 : w6.cell? ⟨gb177, 1, none⟩ = some (.int .i64 a0_1) := (blk_cell BK177.out 1).trans rfl; have hcz9_2 : w6.cell? ⟨gb177, 2, none⟩ = some (.int .i64 a0_2) := (blk_cell BK177.out 2).trans rfl; have hcz9_3 : w6.cell? ⟨gb177, 3, none⟩ = some (.int .i64 a0_3) := (blk_cell BK177.out 3).trans rfl; have hcz9_4 : w6.cell? ⟨gb177, 4, none⟩ = some (.int .i64 a0_4) := (blk_cell BK177.out 4).trans rfl; have hcz9_5 : w6.cell? ⟨gb177, 5, none⟩ = some (.int .i64 a0_5) := (blk_cell BK177.out 5).trans rfl; have hcz9_6 : w6.cell? ⟨gb177, 6, none⟩ = some (.int .i64 a0_6) := (blk_cell BK177.out 6).trans rfl; have hcz9_7 : w6.cell? ⟨gb177, 7, none⟩ = some (.int .i64 a0_7) := (blk_cell BK177.out 7).trans rfl; have hfz9_0 := blk_frozen BK177.out 0; have hfz9_1 := blk_frozen BK177.out 1; have hfz9_2 := blk_frozen BK177.out 2; have hfz9_3 := blk_frozen BK177.out 3; have hfz9_4 := blk_frozen BK177.out 4; have hfz9_5 := blk_frozen BK177.out 5; have hfz9_6 := blk_frozen BK177.out 6; have hfz9_7 := blk_frozen BK177.out 7))
  (try simp only [Act.put, List.setIfInBounds_toArray, List.set_cons_zero, List.set_cons_succ])
  go_cut [23] (fun v23 wc => ∃ (kq : Nat) (x23_2 : Bool), v23 = .bool x23_2 ∧ Aside0 (laws_FnIntervalCut.j0 kq x23_2 a0_0 a0_1 a0_2 a0_3 a0_4 a0_5 a0_6 a0_7 a0_0 a0_1 a0_2 a0_3 a0_4 (wrap64 ((wrap64 ((wrap64 (Int.tdiv a0_5 1000)) * 1000)) + (wrap64 (Int.tmod a1 1000)))) a0_6 a0_7 = some r) ∧ Aside0 (kq ≤ k) ∧ Aside0 (wc.heap[gb177]? = some (.cells #[.bool a0_0, .int .i64 a0_1, .int .i64 a0_2, .int .i64 a0_3, .int .i64 a0_4, .int .i64 a0_5, .int .i64 a0_6, .int .i64 a0_7] 23 (0, 0))) ∧ Aside0 (wc.heap[gb178]? = some (.cells #[.bool a0_0, .int .i64 a0_1, .int .i64 a0_2, .int .i64 a0_3, .int .i64 a0_4, .int .i64 (wrap64 ((wrap64 ((wrap64 (Int.tdiv a0_5 1000)) * 1000)) + (wrap64 (Int.tmod a1 1000)))), .int .i64 a0_6, .int .i64 a0_7] 23 (0, 0))) ∧ Aside0 (Below w.heap.size w wc))
  case first =>
    have H := HC3.out
    clear HC3
    replace H := Option.bind_eq_some_iff.mp H
    obtain ⟨t179, A100, H⟩ := H
    replace H : (if t179 = true then ((laws_intervalRight.f a0_0 a0_1 a0_2 a0_3 a0_4 (wrap64 ((wrap64 ((wrap64 (Int.tdiv a0_5 1000)) * 1000)) + (wrap64 (Int.tmod a1 1000)))) a0_6 a0_7).bind fun t180 => (laws_FnIntervalCut.j0 k (!t180) a0_0 a0_1 a0_2 a0_3 a0_4 a0_5 a0_6 a0_7 a0_0 a0_1 a0_2 a0_3 a0_4 (wrap64 ((wrap64 ((wrap64 (Int.tdiv a0_5 1000)) * 1000)) + (wrap64 (Int.tmod a1 1000)))) a0_6 a0_7)) else (laws_FnIntervalCut.j0 k true a0_0 a0_1 a0_2 a0_3 a0_4 a0_5 a0_6 a0_7 a0_0 a0_1 a0_2 a0_3 a0_4 (wrap64 ((wrap64 ((wrap64 (Int.tdiv a0_5 1000)) * 1000)) + (wrap64 (Int.tmod a1 1000)))) a0_6 a0_7)) = some r := H
    have A10 := Aside0.mk A100
    clear A100
    by_cases c11 : t179 = true
    · subst c11
      have H1 : ((laws_intervalRight.f a0_0 a0_1 a0_2 a0_3 a0_4 (wrap64 ((wrap64 ((wrap64 (Int.tdiv a0_5 1000)) * 1000)) + (wrap64 (Int.tmod a1 1000)))) a0_6 a0_7).bind fun t180 => (laws_FnIntervalCut.j0 k (!t180) a0_0 a0_1 a0_2 a0_3 a0_4 a0_5 a0_6 a0_7 a0_0 a0_1 a0_2 a0_3 a0_4 (wrap64 ((wrap64 ((wrap64 (Int.tdiv a0_5 1000)) * 1000)) + (wrap64 (Int.tmod a1 1000)))) a0_6 a0_7)) = some r := by rw [if_pos rfl] at H; exact H
      clear H
      have H := H1
      clear H1
      replace H := Option.bind_eq_some_iff.mp H
      obtain ⟨t180, A120, H⟩ := H
      replace H : (laws_FnIntervalCut.j0 k (!t180) a0_0 a0_1 a0_2 a0_3 a0_4 a0_5 a0_6 a0_7 a0_0 a0_1 a0_2 a0_3 a0_4 (wrap64 ((wrap64 ((wrap64 (Int.tdiv a0_5 1000)) * 1000)) + (wrap64 (Int.tmod a1 1000)))) a0_6 a0_7) = some r := H
      have A12 := Aside0.mk A120
      clear A120
      have H' := Aside0.mk H
      clear H
      have hnb13 := NB177_178.out
      have hnc13 := NB178_177.out
      have hcz14_0 : w6.cell? ⟨gb177, 0, none⟩ = some (.bool a0_0) := (blk_cell BK177.out 0).trans rfl
      have hcz14_1 : w6.cell? ⟨gb177, 1, none⟩ = some (.int .i64 a0_1) := (blk_cell BK177.out 1).trans rfl
      have hcz14_2 : w6.cell? ⟨gb177, 2, none⟩ = some (.int .i64 a0_2) := (blk_cell BK177.out 2).trans rfl
      have hcz14_3 : w6.cell? ⟨gb177, 3, none⟩ = some (.int .i64 a0_3) := (blk_cell BK177.out 3).trans rfl
      have hcz14_4 : w6.cell? ⟨gb177, 4, none⟩ = some (.int .i64 a0_4) := (blk_cell BK177.out 4).trans rfl
      have hcz14_5 : w6.cell? ⟨gb177, 5, none⟩ = some (.int .i64 a0_5) := (blk_cell BK177.out 5).trans rfl
      have hcz14_6 : w6.cell? ⟨gb177, 6, none⟩ = some (.int .i64 a0_6) := (blk_cell BK177.out 6).trans rfl
      have hcz14_7 : w6.cell? ⟨gb177, 7, none⟩ = some (.int .i64 a0_7) := (blk_cell BK177.out 7).trans rfl
      have hfz14_0 := blk_frozen BK177.out 0
      have hfz14_1 := blk_frozen BK177.out 1
      have hfz14_2 := blk_frozen BK177.out 2
      have hfz14_3 := blk_frozen BK177.out 3
      have hfz14_4 := blk_frozen BK177.out 4
      have hfz14_5 := blk_frozen BK177.out 5
      have hfz14_6 := blk_frozen BK177.out 6
      have hfz14_7 := blk_frozen BK177.out 7
      go_wp2_with (first | ((with_reducible refine gate_callee (f := 5) rfl ?_); refine goesL_ (some 17) rfl rfl Tryd.func5 (by kernel_rfl) rfl #[.agg #[.bool a0_0, .int .i64 a0_1, .int .i64 a0_2, .int .i64 a0_3, .int .i64 a0_4, .int .i64 a0_5, .int .i64 a0_6, .int .i64 a0_7]] rfl (by (try simp only [List.map_toArray, List.map_cons, List.map_nil]); first | done | rfl | (simp only [List.length_drop, List.length_take]; rfl)) ?_; (with_reducible refine (laws_intervalRight.calls a0_0 a0_1 a0_2 a0_3 a0_4 a0_5 a0_6 a0_7 true _ A10.out).mono ?_); rintro e w15 ⟨rfl, hb⟩; refine ⟨_, rfl, ?_⟩; have n0_ := Aside0.mk (blk_below (g := gb177) (o := .cells #[.bool a0_0, .int .i64 a0_1, .int .i64 a0_2, .int .i64 a0_3, .int .i64 a0_4, .int .i64 a0_5, .int .i64 a0_6, .int .i64 a0_7] 23 (0, 0)) (by (with_reducible repeat (first | refine blk_drewN ?_ _ | refine blk_drew ?_ | refine blk_alloc ?_ _)); refine blk_far ?_ NB177_178.out _; (with_reducible repeat (first | refine blk_drewN ?_ _ | refine blk_drew ?_ | refine blk_alloc ?_ _)); refine blk_far ?_ NB177_178.out _; (with_reducible repeat (first | refine blk_drewN ?_ _ | refine blk_drew ?_ | refine blk_alloc ?_ _)); refine blk_far ?_ NB177_178.out _; (with_reducible repeat (first | refine blk_drewN ?_ _ | refine blk_drew ?_ | refine blk_alloc ?_ _)); refine blk_far ?_ NB177_178.out _; (with_reducible repeat (first | refine blk_drewN ?_ _ | refine blk_drew ?_ | refine blk_alloc ?_ _)); refine blk_far ?_ NB177_178.out _; (with_reducible repeat (first | refine blk_drewN ?_ _ | refine blk_drew ?_ | refine blk_alloc ?_ _)); refine blk_far ?_ NB177_178.out _; (with_reducible repeat (first | refine blk_drewN ?_ _ | refine blk_drew ?_ | refine blk_alloc ?_ _)); refine blk_far ?_ NB177_178.out _; (with_reducible repeat (first | refine blk_drewN ?_ _ | refine blk_drew ?_ | refine blk_alloc ?_ _)); refine blk_far ?_ NB177_178.out _; (with_reducible repeat (first | refine blk_drewN ?_ _ | refine blk_drew ?_ | refine blk_alloc ?_ _)); refine blk_far ?_ NB177_178.out _; (with_reducible repeat (first | refine blk_drewN ?_ _ | refine blk_drew ?_ | refine blk_alloc ?_ _)); exact BK177.out) hb); have n1_ := Aside0.mk (blk_below (g := gb178) (o := .cells #[.bool a0_0, .int .i64 a0_1, .int .i64 a0_2, .int .i64 a0_3, .int .i64 a0_4, .int .i64 (wrap64 ((wrap64 ((wrap64 (Int.tdiv a0_5 1000)) * 1000)) + (wrap64 (Int.tmod a1 1000)))), .int .i64 a0_6, .int .i64 a0_7] 23 (0, 0)) (by (with_reducible repeat (first | refine blk_drewN ?_ _ | refine blk_drew ?_ | refine blk_alloc ?_ _)); refine blk_put (cs := #[.bool a0_0, .int .i64 a0_1, .int .i64 a0_2, .int .i64 a0_3, .int .i64 a0_4, .int .i64 a0_5, .int .i64 a0_6, .int .i64 a0_7]) ?_ 5 _ rfl; (with_reducible repeat (first | refine blk_drewN ?_ _ | refine blk_drew ?_ | refine blk_alloc ?_ _)); refine blk_put (cs := #[.bool a0_0, .int .i64 a0_1, .int .i64 a0_2, .int .i64 a0_3, .int .i64 a0_4, .int .i64 a0_5, .int .i64 a0_6, .int .i64 0]) ?_ 7 _ rfl; (with_reducible repeat (first | refine blk_drewN ?_ _ | refine blk_drew ?_ | refine blk_alloc ?_ _)); refine blk_put (cs := #[.bool a0_0, .int .i64 a0_1, .int .i64 a0_2, .int .i64 a0_3, .int .i64 a0_4, .int .i64 a0_5, .int .i64 0, .int .i64 0]) ?_ 6 _ rfl; (with_reducible repeat (first | refine blk_drewN ?_ _ | refine blk_drew ?_ | refine blk_alloc ?_ _)); refine blk_put (cs := #[.bool a0_0, .int .i64 a0_1, .int .i64 a0_2, .int .i64 a0_3, .int .i64 a0_4, .int .i64 0, .int .i64 0, .int .i64 0]) ?_ 5 _ rfl; (with_reducible repeat (first | refine blk_drewN ?_ _ | refine blk_drew ?_ | refine blk_alloc ?_ _)); refine blk_put (cs := #[.bool a0_0, .int .i64 a0_1, .int .i64 a0_2, .int .i64 a0_3, .int .i64 0, .int .i64 0, .int .i64 0, .int .i64 0]) ?_ 4 _ rfl; (with_reducible repeat (first | refine blk_drewN ?_ _ | refine blk_drew ?_ | refine blk_alloc ?_ _)); refine blk_put (cs := #[.bool a0_0, .int .i64 a0_1, .int .i64 a0_2, .int .i64 0, .int .i64 0, .int .i64 0, .int .i64 0, .int .i64 0]) ?_ 3 _ rfl; (with_reducible repeat (first | refine blk_drewN ?_ _ | refine blk_drew ?_ | refine blk_alloc ?_ _)); refine blk_put (cs := #[.bool a0_0, .int .i64 a0_1, .int .i64 0, .int .i64 0, .int .i64 0, .int .i64 0, .int .i64 0, .int .i64 0]) ?_ 2 _ rfl; (with_reducible repeat (first | refine blk_drewN ?_ _ | refine blk_drew ?_ | refine blk_alloc ?_ _)); refine blk_put (cs := #[.bool a0_0, .int .i64 0, .int .i64 0, .int .i64 0, .int .i64 0, .int .i64 0, .int .i64 0, .int .i64 0]) ?_ 1 _ rfl; (with_reducible repeat (first | refine blk_drewN ?_ _ | refine blk_drew ?_ | refine blk_alloc ?_ _)); refine blk_put (cs := #[.bool false, .int .i64 0, .int .i64 0, .int .i64 0, .int .i64 0, .int .i64 0, .int .i64 0, .int .i64 0]) ?_ 0 _ rfl; (with_reducible repeat (first | refine blk_drewN ?_ _ | refine blk_drew ?_ | refine blk_alloc ?_ _)); exact BK178.out) hb); have n2_ := Aside0.mk (below_step (by repeat (first | (with_reducible first | exact HB.out | apply below_alloc | apply pw_below_drewN | apply below_drew1 | refine below_set ?_ GE177.out | refine below_set ?_ GE178.out) | exact HB.out)) hb); clear BK177; clear BK178; clear HB; have BK177 := n0_; have BK178 := n1_; have HB := n2_; clear n0_ n1_ n2_; (try clear hb); (try clear hb2); (try clear hk); (try clear hi); have hcz16_0 : w15.cell? ⟨gb178, 0, none⟩ = some (.bool a0_0) := (blk_cell BK178.out 0).trans rfl; have hcz16_1 : w15.cell? ⟨gb178, 1, none⟩ = some (.int .i64 a0_1) := (blk_cell BK178.out 1).trans rfl; have hcz16_2 : w15.cell? ⟨gb178, 2, none⟩ = some (.int .i64 a0_2) := (blk_cell BK178.out 2).trans rfl; have hcz16_3 : w15.cell? ⟨gb178, 3, none⟩ = some (.int .i64 a0_3) := (blk_cell BK178.out 3).trans rfl; have hcz16_4 : w15.cell? ⟨gb178, 4, none⟩ = some (.int .i64 a0_4) := (blk_cell BK178.out 4).trans rfl; have hcz16_5 : w15.cell? ⟨gb178, 5, none⟩ = some (.int .i64 (wrap64 ((wrap64 ((wrap64 (Int.tdiv a0_5 1000)) * 1000)) + (wrap64 (Int.tmod a1 1000))))) := (blk_cell BK178.out 5).trans rfl; have hcz16_6 : w15.cell? ⟨gb178, 6, none⟩ = some (.int .i64 a0_6) := (blk_cell BK178.out 6).trans rfl; have hcz16_7 : w15.cell? ⟨gb178, 7, none⟩ = some (.int .i64 a0_7) := (blk_cell BK178.out 7).trans rfl; have hfz16_0 := blk_frozen BK178.out 0; have hfz16_1 := blk_frozen BK178.out 1; have hfz16_2 := blk_frozen BK178.out 2; have hfz16_3 := blk_frozen BK178.out 3; have hfz16_4 := blk_frozen BK178.out 4; have hfz16_5 := blk_frozen BK178.out 5; have hfz16_6 := blk_frozen BK178.out 6; have hfz16_7 := blk_frozen BK178.out 7) | (go_at_call 5; (with_reducible refine (laws_intervalRight.calls a0_0 a0_1 a0_2 a0_3 a0_4 (wrap64 ((wrap64 ((wrap64 (Int.tdiv a0_5 1000)) * 1000)) + (wrap64 (Int.tmod a1 1000)))) a0_6 a0_7 t180 _ A12.out).mono ?_); rintro e w17 ⟨rfl, hb⟩; have n0_ := Aside0.mk (blk_below (g := gb177) (o := .cells #[.bool a0_0, .int .i64 a0_1, .int .i64 a0_2, .int .i64 a0_3, .int .i64 a0_4, .int .i64 a0_5, .int .i64 a0_6, .int .i64 a0_7] 23 (0, 0)) (by (with_reducible repeat (first | refine blk_drewN ?_ _ | refine blk_drew ?_ | refine blk_alloc ?_ _)); exact BK177.out) hb); have n1_ := Aside0.mk (blk_below (g := gb178) (o := .cells #[.bool a0_0, .int .i64 a0_1, .int .i64 a0_2, .int .i64 a0_3, .int .i64 a0_4, .int .i64 (wrap64 ((wrap64 ((wrap64 (Int.tdiv a0_5 1000)) * 1000)) + (wrap64 (Int.tmod a1 1000)))), .int .i64 a0_6, .int .i64 a0_7] 23 (0, 0)) (by (with_reducible repeat (first | refine blk_drewN ?_ _ | refine blk_drew ?_ | refine blk_alloc ?_ _)); exact BK178.out) hb); have n2_ := Aside0.mk (below_step (by repeat (first | (with_reducible first | exact HB.out | apply below_alloc | apply pw_below_drewN | apply below_drew1 | refine below_set ?_ GE177.out | refine below_set ?_ GE178.out) | exact HB.out)) hb); clear BK177; clear BK178; clear HB; have BK177 := n0_; have BK178 := n1_; have HB := n2_; clear n0_ n1_ n2_; (try clear hb); (try clear hb2); (try clear hk); (try clear hi)))
      go_meet
      case rel => exact ⟨_, (!t180), (by first | rfl | (simp; done) | (simp [*]; done)), H', ⟨by first | omega | exact Nat.le_refl _⟩, ⟨by (with_reducible repeat (first | refine blk_drewN ?_ _ | refine blk_drew ?_ | refine blk_alloc ?_ _)); exact BK177.out⟩, ⟨by (with_reducible repeat (first | refine blk_drewN ?_ _ | refine blk_drew ?_ | refine blk_alloc ?_ _)); exact BK178.out⟩, ⟨by repeat (first | (with_reducible first | exact HB.out | apply below_alloc | apply pw_below_drewN | apply below_drew1 | refine below_set ?_ GE177.out | refine below_set ?_ GE178.out) | exact HB.out)⟩⟩
    · replace c11 := Bool.eq_false_iff.mpr c11
      subst c11
      have H1 : (laws_FnIntervalCut.j0 k true a0_0 a0_1 a0_2 a0_3 a0_4 a0_5 a0_6 a0_7 a0_0 a0_1 a0_2 a0_3 a0_4 (wrap64 ((wrap64 ((wrap64 (Int.tdiv a0_5 1000)) * 1000)) + (wrap64 (Int.tmod a1 1000)))) a0_6 a0_7) = some r := by rw [if_neg (show ¬ (false = true) by decide)] at H; exact H
      clear H
      have H := H1
      clear H1
      have H' := Aside0.mk H
      clear H
      have hnb18 := NB177_178.out
      have hnc18 := NB178_177.out
      have hcz19_0 : w6.cell? ⟨gb177, 0, none⟩ = some (.bool a0_0) := (blk_cell BK177.out 0).trans rfl
      have hcz19_1 : w6.cell? ⟨gb177, 1, none⟩ = some (.int .i64 a0_1) := (blk_cell BK177.out 1).trans rfl
      have hcz19_2 : w6.cell? ⟨gb177, 2, none⟩ = some (.int .i64 a0_2) := (blk_cell BK177.out 2).trans rfl
      have hcz19_3 : w6.cell? ⟨gb177, 3, none⟩ = some (.int .i64 a0_3) := (blk_cell BK177.out 3).trans rfl
      have hcz19_4 : w6.cell? ⟨gb177, 4, none⟩ = some (.int .i64 a0_4) := (blk_cell BK177.out 4).trans rfl
      have hcz19_5 : w6.cell? ⟨gb177, 5, none⟩ = some (.int .i64 a0_5) := (blk_cell BK177.out 5).trans rfl
      have hcz19_6 : w6.cell? ⟨gb177, 6, none⟩ = some (.int .i64 a0_6) := (blk_cell BK177.out 6).trans rfl
      have hcz19_7 : w6.cell? ⟨gb177, 7, none⟩ = some (.int .i64 a0_7) := (blk_cell BK177.out 7).trans rfl
      have hfz19_0 := blk_frozen BK177.out 0
      have hfz19_1 := blk_frozen BK177.out 1
      have hfz19_2 := blk_frozen BK177.out 2
      have hfz19_3 := blk_frozen BK177.out 3
      have hfz19_4 := blk_frozen BK177.out 4
      have hfz19_5 := blk_frozen BK177.out 5
      have hfz19_6 := blk_frozen BK177.out 6
      have hfz19_7 := blk_frozen BK177.out 7
      go_wp2_with (first | ((with_reducible refine gate_callee (f := 5) rfl ?_); refine goesL_ (some 17) rfl rfl Tryd.func5 (by kernel_rfl) rfl #[.agg #[.bool a0_0, .int .i64 a0_1, .int .i64 a0_2, .int .i64 a0_3, .int .i64 a0_4, .int .i64 a0_5, .int .i64 a0_6, .int .i64 a0_7]] rfl (by (try simp only [List.map_toArray, List.map_cons, List.map_nil]); first | done | rfl | (simp only [List.length_drop, List.length_take]; rfl)) ?_; (with_reducible refine (laws_intervalRight.calls a0_0 a0_1 a0_2 a0_3 a0_4 a0_5 a0_6 a0_7 false _ A10.out).mono ?_); rintro e w20 ⟨rfl, hb⟩; refine ⟨_, rfl, ?_⟩; have n0_ := Aside0.mk (blk_below (g := gb177) (o := .cells #[.bool a0_0, .int .i64 a0_1, .int .i64 a0_2, .int .i64 a0_3, .int .i64 a0_4, .int .i64 a0_5, .int .i64 a0_6, .int .i64 a0_7] 23 (0, 0)) (by (with_reducible repeat (first | refine blk_drewN ?_ _ | refine blk_drew ?_ | refine blk_alloc ?_ _)); refine blk_far ?_ NB177_178.out _; (with_reducible repeat (first | refine blk_drewN ?_ _ | refine blk_drew ?_ | refine blk_alloc ?_ _)); refine blk_far ?_ NB177_178.out _; (with_reducible repeat (first | refine blk_drewN ?_ _ | refine blk_drew ?_ | refine blk_alloc ?_ _)); refine blk_far ?_ NB177_178.out _; (with_reducible repeat (first | refine blk_drewN ?_ _ | refine blk_drew ?_ | refine blk_alloc ?_ _)); refine blk_far ?_ NB177_178.out _; (with_reducible repeat (first | refine blk_drewN ?_ _ | refine blk_drew ?_ | refine blk_alloc ?_ _)); refine blk_far ?_ NB177_178.out _; (with_reducible repeat (first | refine blk_drewN ?_ _ | refine blk_drew ?_ | refine blk_alloc ?_ _)); refine blk_far ?_ NB177_178.out _; (with_reducible repeat (first | refine blk_drewN ?_ _ | refine blk_drew ?_ | refine blk_alloc ?_ _)); refine blk_far ?_ NB177_178.out _; (with_reducible repeat (first | refine blk_drewN ?_ _ | refine blk_drew ?_ | refine blk_alloc ?_ _)); refine blk_far ?_ NB177_178.out _; (with_reducible repeat (first | refine blk_drewN ?_ _ | refine blk_drew ?_ | refine blk_alloc ?_ _)); refine blk_far ?_ NB177_178.out _; (with_reducible repeat (first | refine blk_drewN ?_ _ | refine blk_drew ?_ | refine blk_alloc ?_ _)); exact BK177.out) hb); have n1_ := Aside0.mk (blk_below (g := gb178) (o := .cells #[.bool a0_0, .int .i64 a0_1, .int .i64 a0_2, .int .i64 a0_3, .int .i64 a0_4, .int .i64 (wrap64 ((wrap64 ((wrap64 (Int.tdiv a0_5 1000)) * 1000)) + (wrap64 (Int.tmod a1 1000)))), .int .i64 a0_6, .int .i64 a0_7] 23 (0, 0)) (by (with_reducible repeat (first | refine blk_drewN ?_ _ | refine blk_drew ?_ | refine blk_alloc ?_ _)); refine blk_put (cs := #[.bool a0_0, .int .i64 a0_1, .int .i64 a0_2, .int .i64 a0_3, .int .i64 a0_4, .int .i64 a0_5, .int .i64 a0_6, .int .i64 a0_7]) ?_ 5 _ rfl; (with_reducible repeat (first | refine blk_drewN ?_ _ | refine blk_drew ?_ | refine blk_alloc ?_ _)); refine blk_put (cs := #[.bool a0_0, .int .i64 a0_1, .int .i64 a0_2, .int .i64 a0_3, .int .i64 a0_4, .int .i64 a0_5, .int .i64 a0_6, .int .i64 0]) ?_ 7 _ rfl; (with_reducible repeat (first | refine blk_drewN ?_ _ | refine blk_drew ?_ | refine blk_alloc ?_ _)); refine blk_put (cs := #[.bool a0_0, .int .i64 a0_1, .int .i64 a0_2, .int .i64 a0_3, .int .i64 a0_4, .int .i64 a0_5, .int .i64 0, .int .i64 0]) ?_ 6 _ rfl; (with_reducible repeat (first | refine blk_drewN ?_ _ | refine blk_drew ?_ | refine blk_alloc ?_ _)); refine blk_put (cs := #[.bool a0_0, .int .i64 a0_1, .int .i64 a0_2, .int .i64 a0_3, .int .i64 a0_4, .int .i64 0, .int .i64 0, .int .i64 0]) ?_ 5 _ rfl; (with_reducible repeat (first | refine blk_drewN ?_ _ | refine blk_drew ?_ | refine blk_alloc ?_ _)); refine blk_put (cs := #[.bool a0_0, .int .i64 a0_1, .int .i64 a0_2, .int .i64 a0_3, .int .i64 0, .int .i64 0, .int .i64 0, .int .i64 0]) ?_ 4 _ rfl; (with_reducible repeat (first | refine blk_drewN ?_ _ | refine blk_drew ?_ | refine blk_alloc ?_ _)); refine blk_put (cs := #[.bool a0_0, .int .i64 a0_1, .int .i64 a0_2, .int .i64 0, .int .i64 0, .int .i64 0, .int .i64 0, .int .i64 0]) ?_ 3 _ rfl; (with_reducible repeat (first | refine blk_drewN ?_ _ | refine blk_drew ?_ | refine blk_alloc ?_ _)); refine blk_put (cs := #[.bool a0_0, .int .i64 a0_1, .int .i64 0, .int .i64 0, .int .i64 0, .int .i64 0, .int .i64 0, .int .i64 0]) ?_ 2 _ rfl; (with_reducible repeat (first | refine blk_drewN ?_ _ | refine blk_drew ?_ | refine blk_alloc ?_ _)); refine blk_put (cs := #[.bool a0_0, .int .i64 0, .int .i64 0, .int .i64 0, .int .i64 0, .int .i64 0, .int .i64 0, .int .i64 0]) ?_ 1 _ rfl; (with_reducible repeat (first | refine blk_drewN ?_ _ | refine blk_drew ?_ | refine blk_alloc ?_ _)); refine blk_put (cs := #[.bool false, .int .i64 0, .int .i64 0, .int .i64 0, .int .i64 0, .int .i64 0, .int .i64 0, .int .i64 0]) ?_ 0 _ rfl; (with_reducible repeat (first | refine blk_drewN ?_ _ | refine blk_drew ?_ | refine blk_alloc ?_ _)); exact BK178.out) hb); have n2_ := Aside0.mk (below_step (by repeat (first | (with_reducible first | exact HB.out | apply below_alloc | apply pw_below_drewN | apply below_drew1 | refine below_set ?_ GE177.out | refine below_set ?_ GE178.out) | exact HB.out)) hb); clear BK177; clear BK178; clear HB; have BK177 := n0_; have BK178 := n1_; have HB := n2_; clear n0_ n1_ n2_; (try clear hb); (try clear hb2); (try clear hk); (try clear hi)))
      go_meet
      case rel => exact ⟨_, (true), (by first | rfl | (simp; done) | (simp [*]; done)), H', ⟨by first | omega | exact Nat.le_refl _⟩, ⟨by (with_reducible repeat (first | refine blk_drewN ?_ _ | refine blk_drew ?_ | refine blk_alloc ?_ _)); exact BK177.out⟩, ⟨by (with_reducible repeat (first | refine blk_drewN ?_ _ | refine blk_drew ?_ | refine blk_alloc ?_ _)); exact BK178.out⟩, ⟨by repeat (first | (with_reducible first | exact HB.out | apply below_alloc | apply pw_below_drewN | apply below_drew1 | refine below_set ?_ GE177.out | refine below_set ?_ GE178.out) | exact HB.out)⟩⟩
  case rest =>
    clear HC3
    try clear c1
    try clear p2
    try clear c3
    try clear c5
    try clear p6
    try clear c7
    try clear c11
    try clear c13
    try clear c18
    try clear hcz14_0
    try clear hcz14_1
    try clear hcz14_2
    try clear hcz14_3
    try clear hcz14_4
    try clear hcz14_5
    try clear hcz14_6
    try clear hcz14_7
    try clear hcz16_0
    try clear hcz16_1
    try clear hcz16_2
    try clear hcz16_3
    try clear hcz16_4
    try clear hcz16_5
    try clear hcz16_6
    try clear hcz16_7
    try clear hcz19_0
    try clear hcz19_1
    try clear hcz19_2
    try clear hcz19_3
    try clear hcz19_4
    try clear hcz19_5
    try clear hcz19_6
    try clear hcz19_7
    try clear hcz5_0
    try clear hcz5_1
    try clear hcz5_2
    try clear hcz5_3
    try clear hcz5_4
    try clear hcz5_5
    try clear hcz5_6
    try clear hcz5_7
    try clear hcz8_0
    try clear hcz8_1
    try clear hcz8_2
    try clear hcz8_3
    try clear hcz8_4
    try clear hcz8_5
    try clear hcz8_6
    try clear hcz8_7
    try clear hcz9_0
    try clear hcz9_1
    try clear hcz9_2
    try clear hcz9_3
    try clear hcz9_4
    try clear hcz9_5
    try clear hcz9_6
    try clear hcz9_7
    try clear hfz14_0
    try clear hfz14_1
    try clear hfz14_2
    try clear hfz14_3
    try clear hfz14_4
    try clear hfz14_5
    try clear hfz14_6
    try clear hfz14_7
    try clear hfz16_0
    try clear hfz16_1
    try clear hfz16_2
    try clear hfz16_3
    try clear hfz16_4
    try clear hfz16_5
    try clear hfz16_6
    try clear hfz16_7
    try clear hfz19_0
    try clear hfz19_1
    try clear hfz19_2
    try clear hfz19_3
    try clear hfz19_4
    try clear hfz19_5
    try clear hfz19_6
    try clear hfz19_7
    try clear hfz5_0
    try clear hfz5_1
    try clear hfz5_2
    try clear hfz5_3
    try clear hfz5_4
    try clear hfz5_5
    try clear hfz5_6
    try clear hfz5_7
    try clear hfz8_0
    try clear hfz8_1
    try clear hfz8_2
    try clear hfz8_3
    try clear hfz8_4
    try clear hfz8_5
    try clear hfz8_6
    try clear hfz8_7
    try clear hfz9_0
    try clear hfz9_1
    try clear hfz9_2
    try clear hfz9_3
    try clear hfz9_4
    try clear hfz9_5
    try clear hfz9_6
    try clear hfz9_7
    obtain ⟨kq, x23_2, rfl, HA, HJ2, BK177, BK178, HB⟩ := hcut
    cases kq with
    | zero => exact absurd HA.out (by simp [laws_FnIntervalCut.j0])
    | succ kj2 =>
      have H := HA.out
      clear HA
      simp only [laws_FnIntervalCut.j0] at H
      by_cases c21 : x23_2 = true
      · subst c21
        have H1 : ((laws_intervalsLive.f kj2).bind fun t181 => (some t181)) = some r := by rw [if_pos rfl] at H; exact H
        clear H
        have H := H1
        clear H1
        replace H := Option.bind_eq_some_iff.mp H
        obtain ⟨t181, A220, H⟩ := H
        replace H : (some t181) = some r := H
        have A22 := Aside0.mk A220
        clear A220
        obtain rfl := Option.some.inj H
        go_wp2_with (first | ((with_reducible refine gate_callee (f := 6) rfl ?_); refine goesL_ (some 24) rfl rfl Tryd.func6 (by kernel_rfl) rfl #[] rfl (by (try simp only [List.map_toArray, List.map_cons, List.map_nil]); first | done | rfl | (simp only [List.length_drop, List.length_take]; rfl)) ?_; (with_reducible refine (laws_intervalsLive.calls kj2  t181 _ A22.out ?side99).mono ?_); (case side99 => exact HT.out _ (by repeat (first | (with_reducible first | exact HB.out | apply below_alloc | apply pw_below_drewN | apply below_drew1 | refine below_set ?_ GE177.out | refine below_set ?_ GE178.out) | exact HB.out))); rintro e w23 ⟨rfl, hb⟩; refine ⟨_, rfl, ?_⟩; have n0_ := Aside0.mk (blk_below (g := gb177) (o := .cells #[.bool a0_0, .int .i64 a0_1, .int .i64 a0_2, .int .i64 a0_3, .int .i64 a0_4, .int .i64 a0_5, .int .i64 a0_6, .int .i64 a0_7] 23 (0, 0)) (by (with_reducible repeat (first | refine blk_drewN ?_ _ | refine blk_drew ?_ | refine blk_alloc ?_ _)); exact BK177.out) hb); have n1_ := Aside0.mk (blk_below (g := gb178) (o := .cells #[.bool a0_0, .int .i64 a0_1, .int .i64 a0_2, .int .i64 a0_3, .int .i64 a0_4, .int .i64 (wrap64 ((wrap64 ((wrap64 (Int.tdiv a0_5 1000)) * 1000)) + (wrap64 (Int.tmod a1 1000)))), .int .i64 a0_6, .int .i64 a0_7] 23 (0, 0)) (by (with_reducible repeat (first | refine blk_drewN ?_ _ | refine blk_drew ?_ | refine blk_alloc ?_ _)); exact BK178.out) hb); have n2_ := Aside0.mk (below_step (by repeat (first | (with_reducible first | exact HB.out | apply below_alloc | apply pw_below_drewN | apply below_drew1 | refine below_set ?_ GE177.out | refine below_set ?_ GE178.out) | exact HB.out)) hb); clear BK177; clear BK178; clear HB; have BK177 := n0_; have BK178 := n1_; have HB := n2_; clear n0_ n1_ n2_; (try clear hb); (try clear hb2); (try clear hk); (try clear hi)))
        go_ret
        exact ⟨by first | rfl | (simp [errW_none, errW_some] <;> rfl) | (simp [*, errW_none, errW_some] <;> rfl), by repeat (first | (with_reducible first | exact HB.out | apply below_alloc | apply pw_below_drewN | apply below_drew1 | refine below_set ?_ GE177.out | refine below_set ?_ GE178.out) | exact HB.out)⟩
      · replace c21 := Bool.eq_false_iff.mpr c21
        subst c21
        have H1 : ((spec_IntervalDays.f a0_0 a0_1 a0_2 a0_3 a0_4 a0_5 a0_6 a0_7).bind fun t182 => ((impl_IntervalDays.f kj2 t182).bind fun t185 => ((spec_IntervalDays.f a0_0 a0_1 a0_2 a0_3 a0_4 (wrap64 ((wrap64 ((wrap64 (Int.tdiv a0_5 1000)) * 1000)) + (wrap64 (Int.tmod a1 1000)))) a0_6 a0_7).bind fun t186 => ((impl_IntervalDays.f kj2 t186).bind fun t189 => (if t185.toList = t189.toList then ((laws_intervalsLive.f kj2).bind fun t190 => (some t190)) else (none)))))) = some r := by rw [if_neg (show ¬ (false = true) by decide)] at H; exact H
        clear H
        have H := H1
        clear H1
        replace H := Option.bind_eq_some_iff.mp H
        obtain ⟨t182, A240, H⟩ := H
        replace H : ((impl_IntervalDays.f kj2 t182).bind fun t185 => ((spec_IntervalDays.f a0_0 a0_1 a0_2 a0_3 a0_4 (wrap64 ((wrap64 ((wrap64 (Int.tdiv a0_5 1000)) * 1000)) + (wrap64 (Int.tmod a1 1000)))) a0_6 a0_7).bind fun t186 => ((impl_IntervalDays.f kj2 t186).bind fun t189 => (if t185.toList = t189.toList then ((laws_intervalsLive.f kj2).bind fun t190 => (some t190)) else (none))))) = some r := H
        have A24 := Aside0.mk A240
        clear A240
        replace H := Option.bind_eq_some_iff.mp H
        obtain ⟨t185, A250, H⟩ := H
        replace H : ((spec_IntervalDays.f a0_0 a0_1 a0_2 a0_3 a0_4 (wrap64 ((wrap64 ((wrap64 (Int.tdiv a0_5 1000)) * 1000)) + (wrap64 (Int.tmod a1 1000)))) a0_6 a0_7).bind fun t186 => ((impl_IntervalDays.f kj2 t186).bind fun t189 => (if t185.toList = t189.toList then ((laws_intervalsLive.f kj2).bind fun t190 => (some t190)) else (none)))) = some r := H
        have A25 := Aside0.mk A250
        clear A250
        replace H := Option.bind_eq_some_iff.mp H
        obtain ⟨t186, A260, H⟩ := H
        replace H : ((impl_IntervalDays.f kj2 t186).bind fun t189 => (if t185.toList = t189.toList then ((laws_intervalsLive.f kj2).bind fun t190 => (some t190)) else (none))) = some r := H
        have A26 := Aside0.mk A260
        clear A260
        replace H := Option.bind_eq_some_iff.mp H
        obtain ⟨t189, A270, H⟩ := H
        replace H : (if t185.toList = t189.toList then ((laws_intervalsLive.f kj2).bind fun t190 => (some t190)) else (none)) = some r := H
        have A27 := Aside0.mk A270
        clear A270
        by_cases c28 : t185.toList = t189.toList
        · rw [if_pos c28] at H
          have c28b0 : (t185.toList == t189.toList) = true := beq_iff_eq.mpr c28
          have c28b1 : (t185.toList != t189.toList) = false := bne_eq_false_iff_eq.mpr c28
          clear c28
          replace H := Option.bind_eq_some_iff.mp H
          obtain ⟨t190, A290, H⟩ := H
          replace H : (some t190) = some r := H
          have A29 := Aside0.mk A290
          clear A290
          obtain rfl := Option.some.inj H
          try go_wp2
          have n0_ := Aside0.mk (blk_drew BK177.out)
          have n1_ := Aside0.mk (blk_drew BK178.out)
          have n2_ := Aside0.mk (below_drew1 HB.out)
          clear BK177
          clear BK178
          clear HB
          have BK177 := n0_
          have BK178 := n1_
          have HB := n2_
          clear n0_ n1_ n2_
          refine start_ (n := 11) (S := fun w' => w'.cell? ⟨gb177, 0, none⟩ = some (.bool a0_0) ∧ w'.cell? ⟨gb177, 1, none⟩ = some (.int .i64 a0_1) ∧ w'.cell? ⟨gb177, 2, none⟩ = some (.int .i64 a0_2) ∧ w'.cell? ⟨gb177, 3, none⟩ = some (.int .i64 a0_3) ∧ w'.cell? ⟨gb177, 4, none⟩ = some (.int .i64 a0_4) ∧ w'.cell? ⟨gb177, 5, none⟩ = some (.int .i64 a0_5) ∧ w'.cell? ⟨gb177, 6, none⟩ = some (.int .i64 a0_6) ∧ w'.cell? ⟨gb177, 7, none⟩ = some (.int .i64 a0_7) ∧ w'.cell? ⟨gb178, 0, none⟩ = some (.bool a0_0) ∧ w'.cell? ⟨gb178, 1, none⟩ = some (.int .i64 a0_1) ∧ w'.cell? ⟨gb178, 2, none⟩ = some (.int .i64 a0_2) ∧ w'.cell? ⟨gb178, 3, none⟩ = some (.int .i64 a0_3) ∧ w'.cell? ⟨gb178, 4, none⟩ = some (.int .i64 a0_4) ∧ w'.cell? ⟨gb178, 5, none⟩ = some (.int .i64 (wrap64 ((wrap64 ((wrap64 (Int.tdiv a0_5 1000)) * 1000)) + (wrap64 (Int.tmod a1 1000))))) ∧ w'.cell? ⟨gb178, 6, none⟩ = some (.int .i64 a0_6) ∧ w'.cell? ⟨gb178, 7, none⟩ = some (.int .i64 a0_7)) (ds := []) #[false, false, false, false, false, false, false, false, false, false, false] (by kernel_rfl) rfl rfl ⟨(blk_cell BK177.out 0).trans rfl, (blk_cell BK177.out 1).trans rfl, (blk_cell BK177.out 2).trans rfl, (blk_cell BK177.out 3).trans rfl, (blk_cell BK177.out 4).trans rfl, (blk_cell BK177.out 5).trans rfl, (blk_cell BK177.out 6).trans rfl, (blk_cell BK177.out 7).trans rfl, (blk_cell BK178.out 0).trans rfl, (blk_cell BK178.out 1).trans rfl, (blk_cell BK178.out 2).trans rfl, (blk_cell BK178.out 3).trans rfl, (blk_cell BK178.out 4).trans rfl, (blk_cell BK178.out 5).trans rfl, (blk_cell BK178.out 6).trans rfl, (blk_cell BK178.out 7).trans rfl⟩ (fun hHeld => ?_); refine with_tabW laws_FnIntervalCut.tab5 laws_FnIntervalCut.bits5 (fun HT_ HW_ => ?_)
          generalize wc.drew = w30 at BK177 BK178 HB hHeld ⊢
          refine take_ (i := 0) (N := some 25) (v := ?_) (a' := ?_) #[true, false, false, false, false, false, false, false, false, false, false] rfl rfl (take_ofW HT_.out HW_.out (by kernel_rfl)) (fun _ _ _ h => h) (Or.inl ⟨by rfl, ?_⟩) hHeld ?_ ?_
          rotate_left
          · rintro w' ⟨s0, s1, s2, s3, s4, s5, s6, s7, s8, s9, s10, s11, s12, s13, s14, s15⟩
            go_simp
            with_reducible rfl
          rotate_left
          · simp only [Act.put, List.setIfInBounds_toArray, List.set_cons_zero, List.set_cons_succ, i64_w, i32_w]
            rfl
          refine take_ (i := 3) (N := some 28) (v := ?_) (a' := ?_) #[true, false, false, true, false, false, false, false, false, false, false] rfl rfl (take_ofW HT_.out HW_.out (by kernel_rfl)) (fun _ _ _ h => h) (Or.inl ⟨by rfl, ?_⟩) hHeld ?_ ?_
          rotate_left
          · rintro w' ⟨s0, s1, s2, s3, s4, s5, s6, s7, s8, s9, s10, s11, s12, s13, s14, s15⟩
            go_simp
            with_reducible rfl
          rotate_left
          · simp only [Act.put, List.setIfInBounds_toArray, List.set_cons_zero, List.set_cons_succ, i64_w, i32_w]
            rfl
          refine one_ (i := 1) (N := some 26) #[true, true, false, true, false, false, false, false, false, false, false] rfl rfl (one_of HT_.out (by kernel_rfl)) (by decide) (fun K hK => ?_)
          refine goes_ Tryd.func8 (by kernel_rfl) rfl #[.agg #[.bool a0_0, .int .i64 a0_1, .int .i64 a0_2, .int .i64 a0_3, .int .i64 a0_4, .int .i64 a0_5, .int .i64 a0_6, .int .i64 a0_7]] (by rfl) rfl rfl (by (try simp only [List.map_toArray, List.map_cons, List.map_nil]); first | done | rfl | (simp only [List.length_drop, List.length_take]; rfl)) ?_
          with_reducible refine (spec_IntervalDays.calls a0_0 a0_1 a0_2 a0_3 a0_4 a0_5 a0_6 a0_7 t182 _ A24.out).mono ?_
          rintro e w31 ⟨v183, rfl, ho0, hb⟩
          refine ⟨_, rfl, ?_⟩
          have n0_ := Aside0.mk (Kd.R_lower ho0 (below_size (by repeat (first | (with_reducible first | exact HB.out | apply below_alloc | apply pw_below_drewN | apply below_drew1 | refine below_set ?_ GE177.out | refine below_set ?_ GE178.out) | exact HB.out))))
          have n1_ := Aside0.mk (blk_below (g := gb177) (o := .cells #[.bool a0_0, .int .i64 a0_1, .int .i64 a0_2, .int .i64 a0_3, .int .i64 a0_4, .int .i64 a0_5, .int .i64 a0_6, .int .i64 a0_7] 23 (0, 0)) (by (with_reducible repeat (first | refine blk_drewN ?_ _ | refine blk_drew ?_ | refine blk_alloc ?_ _)); exact BK177.out) hb)
          have n2_ := Aside0.mk (blk_below (g := gb178) (o := .cells #[.bool a0_0, .int .i64 a0_1, .int .i64 a0_2, .int .i64 a0_3, .int .i64 a0_4, .int .i64 (wrap64 ((wrap64 ((wrap64 (Int.tdiv a0_5 1000)) * 1000)) + (wrap64 (Int.tmod a1 1000)))), .int .i64 a0_6, .int .i64 a0_7] 23 (0, 0)) (by (with_reducible repeat (first | refine blk_drewN ?_ _ | refine blk_drew ?_ | refine blk_alloc ?_ _)); exact BK178.out) hb)
          have n3_ := Aside0.mk (below_step (by repeat (first | (with_reducible first | exact HB.out | apply below_alloc | apply pw_below_drewN | apply below_drew1 | refine below_set ?_ GE177.out | refine below_set ?_ GE178.out) | exact HB.out)) hb)
          clear BK177
          clear BK178
          clear HB
          have HO184 := n0_
          have BK177 := n1_
          have BK178 := n2_
          have HB := n3_
          clear n0_ n1_ n2_ n3_
          (try clear hb)
          (try clear hb2)
          (try clear hk)
          (try clear hi)
          (try clear ho0)
          obtain ⟨Ao32, co32, eo32⟩ := Kd.R_slice HO184.out
          (first | subst eo32 | (injection eo32 with f1_ f2_ f3_; have f4_ := f1_.symm; have f5_ := f3_.symm; clear f1_ f2_ f3_; subst f4_; subst f5_))
          refine hK.out _ _ ⟨(blk_cell BK177.out 0).trans rfl, (blk_cell BK177.out 1).trans rfl, (blk_cell BK177.out 2).trans rfl, (blk_cell BK177.out 3).trans rfl, (blk_cell BK177.out 4).trans rfl, (blk_cell BK177.out 5).trans rfl, (blk_cell BK177.out 6).trans rfl, (blk_cell BK177.out 7).trans rfl, (blk_cell BK178.out 0).trans rfl, (blk_cell BK178.out 1).trans rfl, (blk_cell BK178.out 2).trans rfl, (blk_cell BK178.out 3).trans rfl, (blk_cell BK178.out 4).trans rfl, (blk_cell BK178.out 5).trans rfl, (blk_cell BK178.out 6).trans rfl, (blk_cell BK178.out 7).trans rfl⟩ (fun hHeld => ?_)
          clear hK K
          refine norm_ (a' := ?_) ?_ ?_
          rotate_left
          · show Act.put _ (some 26) _ = _
            simp only [Act.put, List.setIfInBounds_toArray, List.set_cons_zero, List.set_cons_succ, i64_w, i32_w]
            rfl
          refine one_ (i := 2) (N := some 27) #[true, true, true, true, false, false, false, false, false, false, false] rfl rfl (one_of HT_.out (by kernel_rfl)) (by decide) (fun K hK => ?_)
          refine goes_ Tryd.func7 (by kernel_rfl) rfl #[.slice Ao32 t182.length co32] (by rfl) rfl rfl (by (try simp only [List.map_toArray, List.map_cons, List.map_nil]); first | done | rfl | (simp only [List.length_drop, List.length_take]; rfl)) ?_
          with_reducible refine (impl_IntervalDays.calls kj2 _ _ t182 t185 _ ?side1 ?side2 A25.out ?side99).mono ?_
          (case side1 => repeat (first | exact (Kd.R_reads' HO184.out).2.2 | (with_reducible refine Kd.C_alloc ?_ _) | (with_reducible refine Kd.C_drewN ?_ _) | (with_reducible refine Kd.C_drew ?_)))
          (case side2 => exact (Kd.R_reads' HO184.out).2.1)
          (case side99 => exact HT.out _ (by repeat (first | (with_reducible first | exact HB.out | apply below_alloc | apply pw_below_drewN | apply below_drew1 | refine below_set ?_ GE177.out | refine below_set ?_ GE178.out) | exact HB.out)))
          rintro e w33 ⟨rfl, hb⟩
          refine ⟨_, rfl, ?_⟩
          have n0_ := Aside0.mk (Kd.R_below (by (with_reducible repeat (first | apply Kd.R_alloc | apply Kd.R_drewN | apply Kd.R_drew)); exact HO184.out) hb)
          have n1_ := Aside0.mk (blk_below (g := gb177) (o := .cells #[.bool a0_0, .int .i64 a0_1, .int .i64 a0_2, .int .i64 a0_3, .int .i64 a0_4, .int .i64 a0_5, .int .i64 a0_6, .int .i64 a0_7] 23 (0, 0)) (by (with_reducible repeat (first | refine blk_drewN ?_ _ | refine blk_drew ?_ | refine blk_alloc ?_ _)); exact BK177.out) hb)
          have n2_ := Aside0.mk (blk_below (g := gb178) (o := .cells #[.bool a0_0, .int .i64 a0_1, .int .i64 a0_2, .int .i64 a0_3, .int .i64 a0_4, .int .i64 (wrap64 ((wrap64 ((wrap64 (Int.tdiv a0_5 1000)) * 1000)) + (wrap64 (Int.tmod a1 1000)))), .int .i64 a0_6, .int .i64 a0_7] 23 (0, 0)) (by (with_reducible repeat (first | refine blk_drewN ?_ _ | refine blk_drew ?_ | refine blk_alloc ?_ _)); exact BK178.out) hb)
          have n3_ := Aside0.mk (below_step (by repeat (first | (with_reducible first | exact HB.out | apply below_alloc | apply pw_below_drewN | apply below_drew1 | refine below_set ?_ GE177.out | refine below_set ?_ GE178.out) | exact HB.out)) hb)
          clear HO184
          clear BK177
          clear BK178
          clear HB
          have HO184 := n0_
          have BK177 := n1_
          have BK178 := n2_
          have HB := n3_
          clear n0_ n1_ n2_ n3_
          (try clear hb)
          (try clear hb2)
          (try clear hk)
          (try clear hi)
          refine hK.out _ _ ⟨(blk_cell BK177.out 0).trans rfl, (blk_cell BK177.out 1).trans rfl, (blk_cell BK177.out 2).trans rfl, (blk_cell BK177.out 3).trans rfl, (blk_cell BK177.out 4).trans rfl, (blk_cell BK177.out 5).trans rfl, (blk_cell BK177.out 6).trans rfl, (blk_cell BK177.out 7).trans rfl, (blk_cell BK178.out 0).trans rfl, (blk_cell BK178.out 1).trans rfl, (blk_cell BK178.out 2).trans rfl, (blk_cell BK178.out 3).trans rfl, (blk_cell BK178.out 4).trans rfl, (blk_cell BK178.out 5).trans rfl, (blk_cell BK178.out 6).trans rfl, (blk_cell BK178.out 7).trans rfl⟩ (fun hHeld => ?_)
          clear hK K
          refine norm_ (a' := ?_) ?_ ?_
          rotate_left
          · show Act.put _ (some 27) _ = _
            simp only [Act.put, List.setIfInBounds_toArray, List.set_cons_zero, List.set_cons_succ, i64_w, i32_w]
            rfl
          refine one_ (i := 4) (N := some 29) #[true, true, true, true, true, false, false, false, false, false, false] rfl rfl (one_of HT_.out (by kernel_rfl)) (by decide) (fun K hK => ?_)
          refine goes_ Tryd.func8 (by kernel_rfl) rfl #[.agg #[.bool a0_0, .int .i64 a0_1, .int .i64 a0_2, .int .i64 a0_3, .int .i64 a0_4, .int .i64 (wrap64 ((wrap64 ((wrap64 (Int.tdiv a0_5 1000)) * 1000)) + (wrap64 (Int.tmod a1 1000)))), .int .i64 a0_6, .int .i64 a0_7]] (by rfl) rfl rfl (by (try simp only [List.map_toArray, List.map_cons, List.map_nil]); first | done | rfl | (simp only [List.length_drop, List.length_take]; rfl)) ?_
          with_reducible refine (spec_IntervalDays.calls a0_0 a0_1 a0_2 a0_3 a0_4 (wrap64 ((wrap64 ((wrap64 (Int.tdiv a0_5 1000)) * 1000)) + (wrap64 (Int.tmod a1 1000)))) a0_6 a0_7 t186 _ A26.out).mono ?_
          rintro e w34 ⟨v187, rfl, ho0, hb⟩
          refine ⟨_, rfl, ?_⟩
          have n0_ := Aside0.mk (Kd.R_elder' (by (with_reducible repeat (first | apply Kd.R_alloc | apply Kd.R_drewN | apply Kd.R_drew)); exact HO184.out) (Kd.R_base ho0) hb)
          have n1_ := Aside0.mk (Kd.R_lower (Kd.R_new' ho0 (Kd.R_lt (by (with_reducible repeat (first | apply Kd.R_alloc | apply Kd.R_drewN | apply Kd.R_drew)); exact HO184.out))) (below_size (by repeat (first | (with_reducible first | exact HB.out | apply below_alloc | apply pw_below_drewN | apply below_drew1 | refine below_set ?_ GE177.out | refine below_set ?_ GE178.out) | exact HB.out))))
          have n2_ := Aside0.mk (blk_below (g := gb177) (o := .cells #[.bool a0_0, .int .i64 a0_1, .int .i64 a0_2, .int .i64 a0_3, .int .i64 a0_4, .int .i64 a0_5, .int .i64 a0_6, .int .i64 a0_7] 23 (0, 0)) (by (with_reducible repeat (first | refine blk_drewN ?_ _ | refine blk_drew ?_ | refine blk_alloc ?_ _)); exact BK177.out) hb)
          have n3_ := Aside0.mk (blk_below (g := gb178) (o := .cells #[.bool a0_0, .int .i64 a0_1, .int .i64 a0_2, .int .i64 a0_3, .int .i64 a0_4, .int .i64 (wrap64 ((wrap64 ((wrap64 (Int.tdiv a0_5 1000)) * 1000)) + (wrap64 (Int.tmod a1 1000)))), .int .i64 a0_6, .int .i64 a0_7] 23 (0, 0)) (by (with_reducible repeat (first | refine blk_drewN ?_ _ | refine blk_drew ?_ | refine blk_alloc ?_ _)); exact BK178.out) hb)
          have n4_ := Aside0.mk (below_step (by repeat (first | (with_reducible first | exact HB.out | apply below_alloc | apply pw_below_drewN | apply below_drew1 | refine below_set ?_ GE177.out | refine below_set ?_ GE178.out) | exact HB.out)) hb)
          clear HO184
          clear BK177
          clear BK178
          clear HB
          have HO184 := n0_
          have HO188 := n1_
          have BK177 := n2_
          have BK178 := n3_
          have HB := n4_
          clear n0_ n1_ n2_ n3_ n4_
          (try clear hb)
          (try clear hb2)
          (try clear hk)
          (try clear hi)
          (try clear ho0)
          obtain ⟨Ao35, co35, eo35⟩ := Kd.R_slice HO188.out
          (first | subst eo35 | (injection eo35 with f1_ f2_ f3_; have f4_ := f1_.symm; have f5_ := f3_.symm; clear f1_ f2_ f3_; subst f4_; subst f5_))
          refine hK.out _ _ ⟨(blk_cell BK177.out 0).trans rfl, (blk_cell BK177.out 1).trans rfl, (blk_cell BK177.out 2).trans rfl, (blk_cell BK177.out 3).trans rfl, (blk_cell BK177.out 4).trans rfl, (blk_cell BK177.out 5).trans rfl, (blk_cell BK177.out 6).trans rfl, (blk_cell BK177.out 7).trans rfl, (blk_cell BK178.out 0).trans rfl, (blk_cell BK178.out 1).trans rfl, (blk_cell BK178.out 2).trans rfl, (blk_cell BK178.out 3).trans rfl, (blk_cell BK178.out 4).trans rfl, (blk_cell BK178.out 5).trans rfl, (blk_cell BK178.out 6).trans rfl, (blk_cell BK178.out 7).trans rfl⟩ (fun hHeld => ?_)
          clear hK K
          refine norm_ (a' := ?_) ?_ ?_
          rotate_left
          · show Act.put _ (some 29) _ = _
            simp only [Act.put, List.setIfInBounds_toArray, List.set_cons_zero, List.set_cons_succ, i64_w, i32_w]
            rfl
          refine one_ (i := 5) (N := some 30) #[true, true, true, true, true, true, false, false, false, false, false] rfl rfl (one_of HT_.out (by kernel_rfl)) (by decide) (fun K hK => ?_)
          refine goes_ Tryd.func7 (by kernel_rfl) rfl #[.slice Ao35 t186.length co35] (by rfl) rfl rfl (by (try simp only [List.map_toArray, List.map_cons, List.map_nil]); first | done | rfl | (simp only [List.length_drop, List.length_take]; rfl)) ?_
          with_reducible refine (impl_IntervalDays.calls kj2 _ _ t186 t189 _ ?side1 ?side2 A27.out ?side99).mono ?_
          (case side1 => repeat (first | exact (Kd.R_reads' HO188.out).2.2 | (with_reducible refine Kd.C_alloc ?_ _) | (with_reducible refine Kd.C_drewN ?_ _) | (with_reducible refine Kd.C_drew ?_)))
          (case side2 => exact (Kd.R_reads' HO188.out).2.1)
          (case side99 => exact HT.out _ (by repeat (first | (with_reducible first | exact HB.out | apply below_alloc | apply pw_below_drewN | apply below_drew1 | refine below_set ?_ GE177.out | refine below_set ?_ GE178.out) | exact HB.out)))
          rintro e w36 ⟨rfl, hb⟩
          refine ⟨_, rfl, ?_⟩
          have n0_ := Aside0.mk (Kd.R_below (by (with_reducible repeat (first | apply Kd.R_alloc | apply Kd.R_drewN | apply Kd.R_drew)); exact HO184.out) hb)
          have n1_ := Aside0.mk (Kd.R_below (by (with_reducible repeat (first | apply Kd.R_alloc | apply Kd.R_drewN | apply Kd.R_drew)); exact HO188.out) hb)
          have n2_ := Aside0.mk (blk_below (g := gb177) (o := .cells #[.bool a0_0, .int .i64 a0_1, .int .i64 a0_2, .int .i64 a0_3, .int .i64 a0_4, .int .i64 a0_5, .int .i64 a0_6, .int .i64 a0_7] 23 (0, 0)) (by (with_reducible repeat (first | refine blk_drewN ?_ _ | refine blk_drew ?_ | refine blk_alloc ?_ _)); exact BK177.out) hb)
          have n3_ := Aside0.mk (blk_below (g := gb178) (o := .cells #[.bool a0_0, .int .i64 a0_1, .int .i64 a0_2, .int .i64 a0_3, .int .i64 a0_4, .int .i64 (wrap64 ((wrap64 ((wrap64 (Int.tdiv a0_5 1000)) * 1000)) + (wrap64 (Int.tmod a1 1000)))), .int .i64 a0_6, .int .i64 a0_7] 23 (0, 0)) (by (with_reducible repeat (first | refine blk_drewN ?_ _ | refine blk_drew ?_ | refine blk_alloc ?_ _)); exact BK178.out) hb)
          have n4_ := Aside0.mk (below_step (by repeat (first | (with_reducible first | exact HB.out | apply below_alloc | apply pw_below_drewN | apply below_drew1 | refine below_set ?_ GE177.out | refine below_set ?_ GE178.out) | exact HB.out)) hb)
          clear HO184
          clear HO188
          clear BK177
          clear BK178
          clear HB
          have HO184 := n0_
          have HO188 := n1_
          have BK177 := n2_
          have BK178 := n3_
          have HB := n4_
          clear n0_ n1_ n2_ n3_ n4_
          (try clear hb)
          (try clear hb2)
          (try clear hk)
          (try clear hi)
          refine hK.out _ _ ⟨(blk_cell BK177.out 0).trans rfl, (blk_cell BK177.out 1).trans rfl, (blk_cell BK177.out 2).trans rfl, (blk_cell BK177.out 3).trans rfl, (blk_cell BK177.out 4).trans rfl, (blk_cell BK177.out 5).trans rfl, (blk_cell BK177.out 6).trans rfl, (blk_cell BK177.out 7).trans rfl, (blk_cell BK178.out 0).trans rfl, (blk_cell BK178.out 1).trans rfl, (blk_cell BK178.out 2).trans rfl, (blk_cell BK178.out 3).trans rfl, (blk_cell BK178.out 4).trans rfl, (blk_cell BK178.out 5).trans rfl, (blk_cell BK178.out 6).trans rfl, (blk_cell BK178.out 7).trans rfl⟩ (fun hHeld => ?_)
          clear hK K
          refine norm_ (a' := ?_) ?_ ?_
          rotate_left
          · show Act.put _ (some 30) _ = _
            simp only [Act.put, List.setIfInBounds_toArray, List.set_cons_zero, List.set_cons_succ, i64_w, i32_w]
            rfl
          refine pure_ (i := 6) (N := some 31) (v := ?_) (a' := ?_) #[true, true, true, true, true, true, true, false, false, false, false] rfl rfl (any_of HT_.out (by kernel_rfl)) (fun _ _ _ h => h) (Or.inl ⟨by rfl, ?_⟩) ?_ ?_
          rotate_left
          · intro w'
            go_simp
            with_reducible rfl
          rotate_left
          · simp only [Act.put, List.setIfInBounds_toArray, List.set_cons_zero, List.set_cons_succ, i64_w, i32_w]
            rfl
          refine pure_ (i := 7) (N := some 32) (v := ?_) (a' := ?_) #[true, true, true, true, true, true, true, true, false, false, false] rfl rfl (any_of HT_.out (by kernel_rfl)) (fun _ _ _ h => h) (Or.inl ⟨by rfl, ?_⟩) ?_ ?_
          rotate_left
          · intro w'
            go_simp
            with_reducible rfl
          rotate_left
          · simp only [Act.put, List.setIfInBounds_toArray, List.set_cons_zero, List.set_cons_succ, i64_w, i32_w]
            rfl
          refine one_ (i := 8) (N := some 33) #[true, true, true, true, true, true, true, true, true, false, false] rfl rfl (one_of HT_.out (by kernel_rfl)) (by decide) (fun K hK => ?_)
          refine goes_ Tryd.func6 (by kernel_rfl) rfl #[] (by rfl) rfl rfl (by (try simp only [List.map_toArray, List.map_cons, List.map_nil]); first | done | rfl | (simp only [List.length_drop, List.length_take]; rfl)) ?_
          with_reducible refine (laws_intervalsLive.calls kj2  t190 _ A29.out ?side99).mono ?_
          (case side99 => exact HT.out _ (by repeat (first | (with_reducible first | exact HB.out | apply below_alloc | apply pw_below_drewN | apply below_drew1 | refine below_set ?_ GE177.out | refine below_set ?_ GE178.out) | exact HB.out)))
          rintro e w37 ⟨rfl, hb⟩
          refine ⟨_, rfl, ?_⟩
          have n0_ := Aside0.mk (Kd.R_below (by (with_reducible repeat (first | apply Kd.R_alloc | apply Kd.R_drewN | apply Kd.R_drew)); exact HO184.out) hb)
          have n1_ := Aside0.mk (Kd.R_below (by (with_reducible repeat (first | apply Kd.R_alloc | apply Kd.R_drewN | apply Kd.R_drew)); exact HO188.out) hb)
          have n2_ := Aside0.mk (blk_below (g := gb177) (o := .cells #[.bool a0_0, .int .i64 a0_1, .int .i64 a0_2, .int .i64 a0_3, .int .i64 a0_4, .int .i64 a0_5, .int .i64 a0_6, .int .i64 a0_7] 23 (0, 0)) (by (with_reducible repeat (first | refine blk_drewN ?_ _ | refine blk_drew ?_ | refine blk_alloc ?_ _)); exact BK177.out) hb)
          have n3_ := Aside0.mk (blk_below (g := gb178) (o := .cells #[.bool a0_0, .int .i64 a0_1, .int .i64 a0_2, .int .i64 a0_3, .int .i64 a0_4, .int .i64 (wrap64 ((wrap64 ((wrap64 (Int.tdiv a0_5 1000)) * 1000)) + (wrap64 (Int.tmod a1 1000)))), .int .i64 a0_6, .int .i64 a0_7] 23 (0, 0)) (by (with_reducible repeat (first | refine blk_drewN ?_ _ | refine blk_drew ?_ | refine blk_alloc ?_ _)); exact BK178.out) hb)
          have n4_ := Aside0.mk (below_step (by repeat (first | (with_reducible first | exact HB.out | apply below_alloc | apply pw_below_drewN | apply below_drew1 | refine below_set ?_ GE177.out | refine below_set ?_ GE178.out) | exact HB.out)) hb)
          clear HO184
          clear HO188
          clear BK177
          clear BK178
          clear HB
          have HO184 := n0_
          have HO188 := n1_
          have BK177 := n2_
          have BK178 := n3_
          have HB := n4_
          clear n0_ n1_ n2_ n3_ n4_
          (try clear hb)
          (try clear hb2)
          (try clear hk)
          (try clear hi)
          refine hK.out _ _ ⟨(blk_cell BK177.out 0).trans rfl, (blk_cell BK177.out 1).trans rfl, (blk_cell BK177.out 2).trans rfl, (blk_cell BK177.out 3).trans rfl, (blk_cell BK177.out 4).trans rfl, (blk_cell BK177.out 5).trans rfl, (blk_cell BK177.out 6).trans rfl, (blk_cell BK177.out 7).trans rfl, (blk_cell BK178.out 0).trans rfl, (blk_cell BK178.out 1).trans rfl, (blk_cell BK178.out 2).trans rfl, (blk_cell BK178.out 3).trans rfl, (blk_cell BK178.out 4).trans rfl, (blk_cell BK178.out 5).trans rfl, (blk_cell BK178.out 6).trans rfl, (blk_cell BK178.out 7).trans rfl⟩ (fun hHeld => ?_)
          clear hK K
          refine norm_ (a' := ?_) ?_ ?_
          rotate_left
          · show Act.put _ (some 33) _ = _
            simp only [Act.put, List.setIfInBounds_toArray, List.set_cons_zero, List.set_cons_succ, i64_w, i32_w]
            rfl
          refine pure_ (i := 9) (N := some 34) (v := ?_) (a' := ?_) #[true, true, true, true, true, true, true, true, true, true, false] rfl rfl (any_of HT_.out (by kernel_rfl)) (fun _ _ _ h => h) (Or.inl ⟨by rfl, ?_⟩) ?_ ?_
          rotate_left
          · intro w'
            go_simp
            with_reducible rfl
          rotate_left
          · simp only [Act.put, List.setIfInBounds_toArray, List.set_cons_zero, List.set_cons_succ, i64_w, i32_w]
            rfl
          refine pure_ (i := 10) (N := some 4) (v := ?_) (a' := ?_) #[true, true, true, true, true, true, true, true, true, true, true] rfl rfl (any_of HT_.out (by kernel_rfl)) (fun _ _ _ h => h) (Or.inl ⟨by rfl, ?_⟩) ?_ ?_
          rotate_left
          · intro w'
            go_simp
            with_reducible rfl
          rotate_left
          · simp only [Act.put, List.setIfInBounds_toArray, List.set_cons_zero, List.set_cons_succ, i64_w, i32_w]
            rfl
          refine done_ (done_of HT_.out (by kernel_rfl)) ?_
          try go_wp2
          go_ret
          exact ⟨by first | rfl | (simp [errW_none, errW_some] <;> rfl) | (simp [*, errW_none, errW_some] <;> rfl), by repeat (first | (with_reducible first | exact HB.out | apply below_alloc | apply pw_below_drewN | apply below_drew1 | refine below_set ?_ GE177.out | refine below_set ?_ GE178.out) | exact HB.out)⟩
        · rw [if_neg c28] at H
          exact absurd H (by simp)
end Go.Proofs.YtinggdcfhlbahaaDoor.ZP
