-- Written by a program of this session (wip/xprint.py), which calls the kit's print.
import Derived.Test.YtinggdcfhlbahaaDoorZP0
import Derived.Test.YtinggdcfhlbahaaDoorZP1
import Derived.Test.YtinggdcfhlbahaaDoorZP2
import Derived.Test.YtinggdcfhlbahaaDoorTab
namespace Go.Proofs.YtinggdcfhlbahaaDoor.ZP
open Go.RowKit Go.Proofs.YtinggdcfhlbahaaDoor.X Go.Proofs.YtinggdcfhlbahaaDoorW.PrintWords Go.Proofs.YtinggdcfhlbahaaDoorW.PrintLast Go.Proofs.YtinggdcfhlbahaaDoorW.PrintMore
attribute [local go_sem] max2_int min2_int max_two min_two max_three min_three max_four min_four   -- for this text's walks alone
set_option linter.unusedVariables false
set_option linter.unusedSimpArgs false

/-! ### laws_FnIntervalSign: function 4 -/
def laws_FnIntervalSign.j0 : Nat → Bool → Bool → Int → Int → Int → Int → Int → Int → Int → Bool → Int → Int → Int → Int → Int → Int → Int → Option (Bool)
  | 0, _, _, _, _, _, _, _, _, _, _, _, _, _, _, _, _, _ => none
  | k + 1, x16, x192000, x192001, x192002, x192003, x192004, x192005, x192006, x192007, x193000, x193001, x193002, x193003, x193004, x193005, x193006, x193007 => if x16 = true then ((laws_intervalsLive.f k).bind fun t195 => (some t195)) else ((spec_IntervalDays.f x192000 x192001 x192002 x192003 x192004 x192005 x192006 x192007).bind fun t196 => ((impl_IntervalDays.f k t196).bind fun t199 => ((spec_IntervalDays.f x193000 x193001 x193002 x193003 x193004 x193005 x193006 x193007).bind fun t200 => ((impl_IntervalDays.f k t200).bind fun t203 => (if (t199.size : Int) > 1 then (if (t203.size : Int) > 1 then (if 0 < (t199.size : Int) then (if (bt t199 0) = 43 then (if 0 < (t203.size : Int) then (if (bt t203 0) = 45 then (if 1 ≤ (t199.size : Int) then (if 1 ≤ (t203.size : Int) then (if (t199.extract 1 t199.size).toList = (t203.extract 1 t203.size).toList then ((laws_intervalsLive.f k).bind fun t204 => (some t204)) else (none)) else (none)) else (none)) else (none)) else (none)) else (none)) else (none)) else (none)) else (none))))))
def laws_FnIntervalSign.f (k : Nat) (a0_0 : Bool) (a0_1 : Int) (a0_2 : Int) (a0_3 : Int) (a0_4 : Int) (a0_5 : Int) (a0_6 : Int) (a0_7 : Int) : Option (Bool) := (laws_intervalRight.f false a0_1 a0_2 a0_3 a0_4 a0_5 a0_6 a0_7).bind fun t193 => (if t193 = true then ((laws_intervalRight.f true a0_1 a0_2 a0_3 a0_4 a0_5 a0_6 a0_7).bind fun t194 => (laws_FnIntervalSign.j0 k (!t194) false a0_1 a0_2 a0_3 a0_4 a0_5 a0_6 a0_7 true a0_1 a0_2 a0_3 a0_4 a0_5 a0_6 a0_7)) else (laws_FnIntervalSign.j0 k true false a0_1 a0_2 a0_3 a0_4 a0_5 a0_6 a0_7 true a0_1 a0_2 a0_3 a0_4 a0_5 a0_6 a0_7))
theorem laws_FnIntervalSign.mono_l : ∀ k, (∀ y0 y1 y2 y3 y4 y5 y6 y7 y8 y9 y10 y11 y12 y13 y14 y15 y16, LeO (laws_FnIntervalSign.j0 k y0 y1 y2 y3 y4 y5 y6 y7 y8 y9 y10 y11 y12 y13 y14 y15 y16) (laws_FnIntervalSign.j0 (k + 1) y0 y1 y2 y3 y4 y5 y6 y7 y8 y9 y10 y11 y12 y13 y14 y15 y16))
  | 0 => fun _ _ _ _ _ _ _ _ _ _ _ _ _ _ _ _ _ r h => by simp [laws_FnIntervalSign.j0] at h
  | k + 1 => by
    have ih0 := laws_FnIntervalSign.mono_l k
    · intro y0 y1 y2 y3 y4 y5 y6 y7 y8 y9 y10 y11 y12 y13 y14 y15 y16
      unfold laws_FnIntervalSign.j0
      repeat' first
      | (with_reducible exact ih0 _ _ _ _ _ _ _ _ _ _ _ _ _ _ _ _ _)
      | (with_reducible exact impl_IntervalDays.mono _ _)
      | (with_reducible exact laws_intervalsLive.mono _)
      | (with_reducible exact LeO.refl _)
      | (with_reducible exact LeO.none _)
      | (with_reducible refine LeO.ite ?_ ?_)
      | (with_reducible refine LeO.bind ?_ (fun _ => ?_))
      | exact ih0 _ _ _ _ _ _ _ _ _ _ _ _ _ _ _ _ _
      | exact impl_IntervalDays.mono _ _
      | exact laws_intervalsLive.mono _
      | exact LeO.none _
      | refine LeO.ite ?_ ?_
      | refine LeO.bind ?_ (fun _ => ?_)
theorem laws_FnIntervalSign.mono : ∀ a0 a1 a2 a3 a4 a5 a6 a7 k, LeO (laws_FnIntervalSign.f k a0 a1 a2 a3 a4 a5 a6 a7) (laws_FnIntervalSign.f (k + 1) a0 a1 a2 a3 a4 a5 a6 a7) := by
  intro a0 a1 a2 a3 a4 a5 a6 a7 k
  have ih0 := laws_FnIntervalSign.mono_l k
  unfold laws_FnIntervalSign.f
  repeat' first
      | (with_reducible exact ih0 _ _ _ _ _ _ _ _ _ _ _ _ _ _ _ _ _)
      | (with_reducible exact impl_IntervalDays.mono _ _)
      | (with_reducible exact laws_intervalsLive.mono _)
      | (with_reducible exact LeO.refl _)
      | (with_reducible exact LeO.none _)
      | (with_reducible refine LeO.ite ?_ ?_)
      | (with_reducible refine LeO.bind ?_ (fun _ => ?_))
      | exact ih0 _ _ _ _ _ _ _ _ _ _ _ _ _ _ _ _ _
      | exact impl_IntervalDays.mono _ _
      | exact laws_intervalsLive.mono _
      | exact LeO.none _
      | refine LeO.ite ?_ ?_
      | refine LeO.bind ?_ (fun _ => ?_)
def laws_FnIntervalSign.T5 : Bool × List (List Nat × List Nat) := (true, [([], []), ([0], [0]), ([1, 1], [1]), ([], []), ([3, 2], [3]), ([4, 4], [4]), ([2, 5, 0, 1, 2], [2]), ([5, 6, 0, 1, 2, 3, 4, 5, 6], [5])])
def laws_FnIntervalSign.B5 : List Nat := [0, 1, 3, 0, 15, 31, 63, 127]
theorem laws_FnIntervalSign.tab5 : rtab .any (opsOf Tryd.f4 5) = laws_FnIntervalSign.T5 := by kernel_rfl
theorem laws_FnIntervalSign.bits5 : waitsOk laws_FnIntervalSign.T5.2 laws_FnIntervalSign.B5 = true := by kernel_rfl
def laws_FnIntervalSign.T6 : Bool × List (List Nat × List Nat) := (true, [([], []), ([0], [0]), ([1], [1]), ([2], [2]), ([3], [3]), ([4, 3], [3, 4]), ([5, 3], [3, 5]), ([3, 6], [3, 6]), ([7, 3], [7]), ([8], [8]), ([9, 8], [8, 9]), ([10, 8], [8, 10]), ([8, 11], [8, 11]), ([12, 8], [12]), ([13], [13]), ([14, 13], [13, 14]), ([15, 13], [13, 15]), ([13, 16], [13, 16]), ([17, 13], [17]), ([18], [18]), ([19, 18], [18, 19]), ([18], [18]), ([21, 18], [18, 21]), ([20, 22, 18], [18, 20, 22]), ([18, 23], [18, 23]), ([24, 18], [24]), ([25, 25], [25]), ([25, 26], [25, 26]), ([27, 26, 0, 1, 2, 3, 4, 5, 6, 7, 8, 9, 10, 11, 12, 13, 14, 15, 16, 17, 18, 19, 20, 21, 22, 23, 24, 25, 26, 27], [27])])
def laws_FnIntervalSign.B6 : List Nat := [0, 1, 3, 7, 15, 31, 63, 127, 255, 511, 1023, 2047, 4095, 8191, 16383, 32767, 65535, 131071, 262143, 524287, 1048575, 524287, 2621439, 8388607, 16777215, 33554431, 67108863, 134217727, 268435455]
theorem laws_FnIntervalSign.tab6 : rtab .any (opsOf Tryd.f4 6) = laws_FnIntervalSign.T6 := by kernel_rfl
theorem laws_FnIntervalSign.bits6 : waitsOk laws_FnIntervalSign.T6.2 laws_FnIntervalSign.B6 = true := by kernel_rfl
set_option maxHeartbeats 8000000 in
set_option maxRecDepth 100000 in
theorem laws_FnIntervalSign.calls (k : Nat) (a0_0 : Bool) (a0_1 : Int) (a0_2 : Int) (a0_3 : Int) (a0_4 : Int) (a0_5 : Int) (a0_6 : Int) (a0_7 : Int) (r : Bool) (w : World) (h : laws_FnIntervalSign.f k a0_0 a0_1 a0_2 a0_3 a0_4 a0_5 a0_6 a0_7 = some r) (htab : Tab w) :
    Calls Tryd.prog 4 #[.agg #[.bool a0_0, .int .i64 a0_1, .int .i64 a0_2, .int .i64 a0_3, .int .i64 a0_4, .int .i64 a0_5, .int .i64 a0_6, .int .i64 a0_7]] w fun e w' => e = .returned (.bool r) ∧ Below w.heap.size w w' := by
  have HT := Aside0.mk (tab_all htab)
  clear htab
  have hu23 := Tryd.underlying23
  have HB := Aside0.mk (Below.refl w.heap.size w)
  have H : ((laws_intervalRight.f false a0_1 a0_2 a0_3 a0_4 a0_5 a0_6 a0_7).bind fun t193 => (if t193 = true then ((laws_intervalRight.f true a0_1 a0_2 a0_3 a0_4 a0_5 a0_6 a0_7).bind fun t194 => (laws_FnIntervalSign.j0 k (!t194) false a0_1 a0_2 a0_3 a0_4 a0_5 a0_6 a0_7 true a0_1 a0_2 a0_3 a0_4 a0_5 a0_6 a0_7)) else (laws_FnIntervalSign.j0 k true false a0_1 a0_2 a0_3 a0_4 a0_5 a0_6 a0_7 true a0_1 a0_2 a0_3 a0_4 a0_5 a0_6 a0_7))) = some r := h
  clear h
  have HC2 := Aside0.mk H
  clear H
  go_enter Tryd.func4, Tryd.ntmps4
  go_upto_region 3 with (first | ((with_reducible refine gate_dst (N := 1) rfl ?_); (try (refine gate_guard (by rfl) ?_; dsimp only)); refine box_event ?hg (N := 1) ?hd (cs := #[.bool a0_0, .int .i64 a0_1, .int .i64 a0_2, .int .i64 a0_3, .int .i64 a0_4, .int .i64 a0_5, .int .i64 a0_6, .int .i64 a0_7]) (t := 23) ?hr ?_; (case hd => rfl); (case hg => rfl); (case hr => first | (go_simp; done) | (go_simp; rfl)); intro gb191 hg w3 hbox hb; have n0_ := Aside0.mk (below_step (by repeat (first | (with_reducible first | exact HB.out | apply below_alloc | apply pw_below_drewN | apply below_drew1) | exact HB.out)) hb); have n1_ := Aside0.mk (hbox); have n2_ := Aside0.mk ((by rw [hg]; exact (below_size (by repeat (first | (with_reducible first | exact HB.out | apply below_alloc | apply pw_below_drewN | apply below_drew1) | exact HB.out))) : w.heap.size ≤ gb191)); have n3_ := Aside0.mk ((by rw [hg]; exact (below_size (by repeat (first | (with_reducible first | exact HB.out | apply below_alloc | apply pw_below_drewN | apply below_drew1) | exact HB.out))) : w.heap.size ≤ gb191)); clear HB; have HB := n0_; have BK191 := n1_; have GW191 := n2_; have GE191 := n3_; clear n0_ n1_ n2_ n3_; clear hb hbox hg; have hcz4_0 : w3.cell? ⟨gb191, 0, none⟩ = some (.bool a0_0) := (blk_cell BK191.out 0).trans rfl; have hcz4_1 : w3.cell? ⟨gb191, 1, none⟩ = some (.int .i64 a0_1) := (blk_cell BK191.out 1).trans rfl; have hcz4_2 : w3.cell? ⟨gb191, 2, none⟩ = some (.int .i64 a0_2) := (blk_cell BK191.out 2).trans rfl; have hcz4_3 : w3.cell? ⟨gb191, 3, none⟩ = some (.int .i64 a0_3) := (blk_cell BK191.out 3).trans rfl; have hcz4_4 : w3.cell? ⟨gb191, 4, none⟩ = some (.int .i64 a0_4) := (blk_cell BK191.out 4).trans rfl; have hcz4_5 : w3.cell? ⟨gb191, 5, none⟩ = some (.int .i64 a0_5) := (blk_cell BK191.out 5).trans rfl; have hcz4_6 : w3.cell? ⟨gb191, 6, none⟩ = some (.int .i64 a0_6) := (blk_cell BK191.out 6).trans rfl; have hcz4_7 : w3.cell? ⟨gb191, 7, none⟩ = some (.int .i64 a0_7) := (blk_cell BK191.out 7).trans rfl; have hfz4_0 := blk_frozen BK191.out 0; have hfz4_1 := blk_frozen BK191.out 1; have hfz4_2 := blk_frozen BK191.out 2; have hfz4_3 := blk_frozen BK191.out 3; have hfz4_4 := blk_frozen BK191.out 4; have hfz4_5 := blk_frozen BK191.out 5; have hfz4_6 := blk_frozen BK191.out 6; have hfz4_7 := blk_frozen BK191.out 7) | ((with_reducible refine gate_dst (N := 3) rfl ?_); (try (refine gate_guard (by rfl) ?_; dsimp only)); refine box_event ?hg (N := 3) ?hd (cs := #[.bool false, .int .i64 0, .int .i64 0, .int .i64 0, .int .i64 0, .int .i64 0, .int .i64 0, .int .i64 0]) (t := 23) ?hr ?_; (case hd => rfl); (case hg => rfl); (case hr => first | (go_simp; done) | (go_simp; rfl)); intro gb192 hg w5 hbox hb; have n0_ := Aside0.mk (blk_below (g := gb191) (o := .cells #[.bool a0_0, .int .i64 a0_1, .int .i64 a0_2, .int .i64 a0_3, .int .i64 a0_4, .int .i64 a0_5, .int .i64 a0_6, .int .i64 a0_7] 23 (0, 0)) (by (with_reducible repeat (first | refine blk_drewN ?_ _ | refine blk_drew ?_ | refine blk_alloc ?_ _)); exact BK191.out) hb); have n1_ := Aside0.mk (below_step (by repeat (first | (with_reducible first | exact HB.out | apply below_alloc | apply pw_below_drewN | apply below_drew1 | refine below_set ?_ GE191.out) | exact HB.out)) hb); have n2_ := Aside0.mk (hbox); have n3_ := Aside0.mk ((by rw [hg]; exact (below_size (by repeat (first | (with_reducible first | exact HB.out | apply below_alloc | apply pw_below_drewN | apply below_drew1 | refine below_set ?_ GE191.out) | exact HB.out))) : w.heap.size ≤ gb192)); have n4_ := Aside0.mk ((by rw [hg]; exact (below_size (by repeat (first | (with_reducible first | exact HB.out | apply below_alloc | apply pw_below_drewN | apply below_drew1 | refine below_set ?_ GE191.out) | exact HB.out))) : w.heap.size ≤ gb192)); have n5_ := Aside0.mk ((by rw [hg]; exact Nat.ne_of_lt (blk_lt (g := gb191) (o := .cells #[.bool a0_0, .int .i64 a0_1, .int .i64 a0_2, .int .i64 a0_3, .int .i64 a0_4, .int .i64 a0_5, .int .i64 a0_6, .int .i64 a0_7] 23 (0, 0)) (by (with_reducible repeat (first | refine blk_drewN ?_ _ | refine blk_drew ?_ | refine blk_alloc ?_ _)); exact BK191.out)) : gb191 ≠ gb192)); have n6_ := Aside0.mk ((by rw [hg]; exact Nat.ne_of_gt (blk_lt (g := gb191) (o := .cells #[.bool a0_0, .int .i64 a0_1, .int .i64 a0_2, .int .i64 a0_3, .int .i64 a0_4, .int .i64 a0_5, .int .i64 a0_6, .int .i64 a0_7] 23 (0, 0)) (by (with_reducible repeat (first | refine blk_drewN ?_ _ | refine blk_drew ?_ | refine blk_alloc ?_ _)); exact BK191.out)) : gb192 ≠ gb191)); clear BK191; clear HB; have BK191 := n0_; have HB := n1_; have BK192 := n2_; have GW192 := n3_; have GE192 := n4_; have NB191_192 := n5_; have NB192_191 := n6_; clear n0_ n1_ n2_ n3_ n4_ n5_ n6_; clear hb hbox hg; have hnb6 := NB192_191.out; have hnc6 := NB191_192.out; have hcz7_0 : w5.cell? ⟨gb192, 0, none⟩ = some (.bool false) := (blk_cell BK192.out 0).trans rfl; have hcz7_1 : w5.cell? ⟨gb192, 1, none⟩ = some (.int .i64 0) := (blk_cell BK192.out 1).trans rfl; have hcz7_2 : w5.cell? ⟨gb192, 2, none⟩ = some (.int .i64 0) := (blk_cell BK192.out 2).trans rfl; have hcz7_3 : w5.cell? ⟨gb192, 3, none⟩ = some (.int .i64 0) := (blk_cell BK192.out 3).trans rfl; have hcz7_4 : w5.cell? ⟨gb192, 4, none⟩ = some (.int .i64 0) := (blk_cell BK192.out 4).trans rfl; have hcz7_5 : w5.cell? ⟨gb192, 5, none⟩ = some (.int .i64 0) := (blk_cell BK192.out 5).trans rfl; have hcz7_6 : w5.cell? ⟨gb192, 6, none⟩ = some (.int .i64 0) := (blk_cell BK192.out 6).trans rfl; have hcz7_7 : w5.cell? ⟨gb192, 7, none⟩ = some (.int .i64 0) := (blk_cell BK192.out 7).trans rfl; have hfz7_0 := blk_frozen BK192.out 0; have hfz7_1 := blk_frozen BK192.out 1; have hfz7_2 := blk_frozen BK192.out 2; have hfz7_3 := blk_frozen BK192.out 3; have hfz7_4 := blk_frozen BK192.out 4; have hfz7_5 := blk_frozen BK192.out 5; have hfz7_6 := blk_frozen BK192.out 6; have hfz7_7 := blk_frozen BK192.out 7; have hcz8_0 : w5.cell? ⟨gb191, 0, none⟩ = some (.bool a0_0) := (blk_cell BK191.out 0).trans rfl; have hcz8_1 : w5.cell? ⟨gb191, 1, none⟩ = some (.int .i64 a0_1) := (blk_cell BK191.out 1).trans rfl; have hcz8_2 : w5.cell? ⟨gb191, 2, none⟩ = some (.int .i64 a0_2) := (blk_cell BK191.out 2).trans rfl; have hcz8_3 : w5.cell? ⟨gb191, 3, none⟩ = some (.int .i64 a0_3) := (blk_cell BK191.out 3).trans rfl; have hcz8_4 : w5.cell? ⟨gb191, 4, none⟩ = some (.int .i64 a0_4) := (blk_cell BK191.out 4).trans rfl; have hcz8_5 : w5.cell? ⟨gb191, 5, none⟩ = some (.int .i64 a0_5) := (blk_cell BK191.out 5).trans rfl; have hcz8_6 : w5.cell? ⟨gb191, 6, none⟩ = some (.int .i64 a0_6) := (blk_cell BK191.out 6).trans rfl; have hcz8_7 : w5.cell? ⟨gb191, 7, none⟩ = some (.int .i64 a0_7) := (blk_cell BK191.out 7).trans rfl; have hfz8_0 := blk_frozen BK191.out 0; have hfz8_1 := blk_frozen BK191.out 1; have hfz8_2 := blk_frozen BK191.out 2; have hfz8_3 := blk_frozen BK191.out 3; have hfz8_4 := blk_frozen BK191.out 4; have hfz8_5 := blk_frozen BK191.out 5; have hfz8_6 := blk_frozen BK191.out 6; have hfz8_7 := blk_frozen BK191.out 7))
  (try simp only [Act.put, List.setIfInBounds_toArray, List.set_cons_zero, List.set_cons_succ])
  go_cut [16] (fun v16 wc => ∃ (kq : Nat) (x16_1 : Bool), v16 = .bool x16_1 ∧ Aside0 (laws_FnIntervalSign.j0 kq x16_1 false a0_1 a0_2 a0_3 a0_4 a0_5 a0_6 a0_7 true a0_1 a0_2 a0_3 a0_4 a0_5 a0_6 a0_7 = some r) ∧ Aside0 (kq ≤ k) ∧ Aside0 (wc.heap[gb191]? = some (.cells #[.bool false, .int .i64 a0_1, .int .i64 a0_2, .int .i64 a0_3, .int .i64 a0_4, .int .i64 a0_5, .int .i64 a0_6, .int .i64 a0_7] 23 (0, 0))) ∧ Aside0 (wc.heap[gb192]? = some (.cells #[.bool true, .int .i64 a0_1, .int .i64 a0_2, .int .i64 a0_3, .int .i64 a0_4, .int .i64 a0_5, .int .i64 a0_6, .int .i64 a0_7] 23 (0, 0))) ∧ Aside0 (Below w.heap.size w wc))
  case first =>
    have H := HC2.out
    clear HC2
    replace H := Option.bind_eq_some_iff.mp H
    obtain ⟨t193, A90, H⟩ := H
    replace H : (if t193 = true then ((laws_intervalRight.f true a0_1 a0_2 a0_3 a0_4 a0_5 a0_6 a0_7).bind fun t194 => (laws_FnIntervalSign.j0 k (!t194) false a0_1 a0_2 a0_3 a0_4 a0_5 a0_6 a0_7 true a0_1 a0_2 a0_3 a0_4 a0_5 a0_6 a0_7)) else (laws_FnIntervalSign.j0 k true false a0_1 a0_2 a0_3 a0_4 a0_5 a0_6 a0_7 true a0_1 a0_2 a0_3 a0_4 a0_5 a0_6 a0_7)) = some r := H
    have A9 := Aside0.mk A90
    clear A90
    by_cases c10 : t193 = true
    · subst c10
      have H1 : ((laws_intervalRight.f true a0_1 a0_2 a0_3 a0_4 a0_5 a0_6 a0_7).bind fun t194 => (laws_FnIntervalSign.j0 k (!t194) false a0_1 a0_2 a0_3 a0_4 a0_5 a0_6 a0_7 true a0_1 a0_2 a0_3 a0_4 a0_5 a0_6 a0_7)) = some r := by rw [if_pos rfl] at H; exact H
      clear H
      have H := H1
      clear H1
      replace H := Option.bind_eq_some_iff.mp H
      obtain ⟨t194, A110, H⟩ := H
      replace H : (laws_FnIntervalSign.j0 k (!t194) false a0_1 a0_2 a0_3 a0_4 a0_5 a0_6 a0_7 true a0_1 a0_2 a0_3 a0_4 a0_5 a0_6 a0_7) = some r := H
      have A11 := Aside0.mk A110
      clear A110
      have H' := Aside0.mk H
      clear H
      have hnb12 := NB191_192.out
      have hnc12 := NB192_191.out
      have hcz13_0 : w5.cell? ⟨gb191, 0, none⟩ = some (.bool a0_0) := (blk_cell BK191.out 0).trans rfl
      have hcz13_1 : w5.cell? ⟨gb191, 1, none⟩ = some (.int .i64 a0_1) := (blk_cell BK191.out 1).trans rfl
      have hcz13_2 : w5.cell? ⟨gb191, 2, none⟩ = some (.int .i64 a0_2) := (blk_cell BK191.out 2).trans rfl
      have hcz13_3 : w5.cell? ⟨gb191, 3, none⟩ = some (.int .i64 a0_3) := (blk_cell BK191.out 3).trans rfl
      have hcz13_4 : w5.cell? ⟨gb191, 4, none⟩ = some (.int .i64 a0_4) := (blk_cell BK191.out 4).trans rfl
      have hcz13_5 : w5.cell? ⟨gb191, 5, none⟩ = some (.int .i64 a0_5) := (blk_cell BK191.out 5).trans rfl
      have hcz13_6 : w5.cell? ⟨gb191, 6, none⟩ = some (.int .i64 a0_6) := (blk_cell BK191.out 6).trans rfl
      have hcz13_7 : w5.cell? ⟨gb191, 7, none⟩ = some (.int .i64 a0_7) := (blk_cell BK191.out 7).trans rfl
      have hfz13_0 := blk_frozen BK191.out 0
      have hfz13_1 := blk_frozen BK191.out 1
      have hfz13_2 := blk_frozen BK191.out 2
      have hfz13_3 := blk_frozen BK191.out 3
      have hfz13_4 := blk_frozen BK191.out 4
      have hfz13_5 := blk_frozen BK191.out 5
      have hfz13_6 := blk_frozen BK191.out 6
      have hfz13_7 := blk_frozen BK191.out 7
      go_wp2_with (first | ((with_reducible refine gate_callee (f := 5) rfl ?_); refine goesL_ (some 10) rfl rfl Tryd.func5 (by kernel_rfl) rfl #[.agg #[.bool false, .int .i64 a0_1, .int .i64 a0_2, .int .i64 a0_3, .int .i64 a0_4, .int .i64 a0_5, .int .i64 a0_6, .int .i64 a0_7]] rfl (by (try simp only [List.map_toArray, List.map_cons, List.map_nil]); first | done | rfl | (simp only [List.length_drop, List.length_take]; rfl)) ?_; (with_reducible refine (laws_intervalRight.calls false a0_1 a0_2 a0_3 a0_4 a0_5 a0_6 a0_7 true _ A9.out).mono ?_); rintro e w14 ⟨rfl, hb⟩; refine ⟨_, rfl, ?_⟩; have n0_ := Aside0.mk (blk_below (g := gb191) (o := .cells #[.bool false, .int .i64 a0_1, .int .i64 a0_2, .int .i64 a0_3, .int .i64 a0_4, .int .i64 a0_5, .int .i64 a0_6, .int .i64 a0_7] 23 (0, 0)) (by (with_reducible repeat (first | refine blk_drewN ?_ _ | refine blk_drew ?_ | refine blk_alloc ?_ _)); refine blk_far ?_ NB191_192.out _; (with_reducible repeat (first | refine blk_drewN ?_ _ | refine blk_drew ?_ | refine blk_alloc ?_ _)); refine blk_put (cs := #[.bool a0_0, .int .i64 a0_1, .int .i64 a0_2, .int .i64 a0_3, .int .i64 a0_4, .int .i64 a0_5, .int .i64 a0_6, .int .i64 a0_7]) ?_ 0 _ rfl; (with_reducible repeat (first | refine blk_drewN ?_ _ | refine blk_drew ?_ | refine blk_alloc ?_ _)); refine blk_far ?_ NB191_192.out _; (with_reducible repeat (first | refine blk_drewN ?_ _ | refine blk_drew ?_ | refine blk_alloc ?_ _)); refine blk_far ?_ NB191_192.out _; (with_reducible repeat (first | refine blk_drewN ?_ _ | refine blk_drew ?_ | refine blk_alloc ?_ _)); refine blk_far ?_ NB191_192.out _; (with_reducible repeat (first | refine blk_drewN ?_ _ | refine blk_drew ?_ | refine blk_alloc ?_ _)); refine blk_far ?_ NB191_192.out _; (with_reducible repeat (first | refine blk_drewN ?_ _ | refine blk_drew ?_ | refine blk_alloc ?_ _)); refine blk_far ?_ NB191_192.out _; (with_reducible repeat (first | refine blk_drewN ?_ _ | refine blk_drew ?_ | refine blk_alloc ?_ _)); refine blk_far ?_ NB191_192.out _; (with_reducible repeat (first | refine blk_drewN ?_ _ | refine blk_drew ?_ | refine blk_alloc ?_ _)); refine blk_far ?_ NB191_192.out _; (with_reducible repeat (first | refine blk_drewN ?_ _ | refine blk_drew ?_ | refine blk_alloc ?_ _)); refine blk_far ?_ NB191_192.out _; (with_reducible repeat (first | refine blk_drewN ?_ _ | refine blk_drew ?_ | refine blk_alloc ?_ _)); exact BK191.out) hb); have n1_ := Aside0.mk (blk_below (g := gb192) (o := .cells #[.bool true, .int .i64 a0_1, .int .i64 a0_2, .int .i64 a0_3, .int .i64 a0_4, .int .i64 a0_5, .int .i64 a0_6, .int .i64 a0_7] 23 (0, 0)) (by (with_reducible repeat (first | refine blk_drewN ?_ _ | refine blk_drew ?_ | refine blk_alloc ?_ _)); refine blk_put (cs := #[.bool a0_0, .int .i64 a0_1, .int .i64 a0_2, .int .i64 a0_3, .int .i64 a0_4, .int .i64 a0_5, .int .i64 a0_6, .int .i64 a0_7]) ?_ 0 _ rfl; (with_reducible repeat (first | refine blk_drewN ?_ _ | refine blk_drew ?_ | refine blk_alloc ?_ _)); refine blk_far ?_ NB192_191.out _; (with_reducible repeat (first | refine blk_drewN ?_ _ | refine blk_drew ?_ | refine blk_alloc ?_ _)); refine blk_put (cs := #[.bool a0_0, .int .i64 a0_1, .int .i64 a0_2, .int .i64 a0_3, .int .i64 a0_4, .int .i64 a0_5, .int .i64 a0_6, .int .i64 0]) ?_ 7 _ rfl; (with_reducible repeat (first | refine blk_drewN ?_ _ | refine blk_drew ?_ | refine blk_alloc ?_ _)); refine blk_put (cs := #[.bool a0_0, .int .i64 a0_1, .int .i64 a0_2, .int .i64 a0_3, .int .i64 a0_4, .int .i64 a0_5, .int .i64 0, .int .i64 0]) ?_ 6 _ rfl; (with_reducible repeat (first | refine blk_drewN ?_ _ | refine blk_drew ?_ | refine blk_alloc ?_ _)); refine blk_put (cs := #[.bool a0_0, .int .i64 a0_1, .int .i64 a0_2, .int .i64 a0_3, .int .i64 a0_4, .int .i64 0, .int .i64 0, .int .i64 0]) ?_ 5 _ rfl; (with_reducible repeat (first | refine blk_drewN ?_ _ | refine blk_drew ?_ | refine blk_alloc ?_ _)); refine blk_put (cs := #[.bool a0_0, .int .i64 a0_1, .int .i64 a0_2, .int .i64 a0_3, .int .i64 0, .int .i64 0, .int .i64 0, .int .i64 0]) ?_ 4 _ rfl; (with_reducible repeat (first | refine blk_drewN ?_ _ | refine blk_drew ?_ | refine blk_alloc ?_ _)); refine blk_put (cs := #[.bool a0_0, .int .i64 a0_1, .int .i64 a0_2, .int .i64 0, .int .i64 0, .int .i64 0, .int .i64 0, .int .i64 0]) ?_ 3 _ rfl; (with_reducible repeat (first | refine blk_drewN ?_ _ | refine blk_drew ?_ | refine blk_alloc ?_ _)); refine blk_put (cs := #[.bool a0_0, .int .i64 a0_1, .int .i64 0, .int .i64 0, .int .i64 0, .int .i64 0, .int .i64 0, .int .i64 0]) ?_ 2 _ rfl; (with_reducible repeat (first | refine blk_drewN ?_ _ | refine blk_drew ?_ | refine blk_alloc ?_ _)); refine blk_put (cs := #[.bool a0_0, .int .i64 0, .int .i64 0, .int .i64 0, .int .i64 0, .int .i64 0, .int .i64 0, .int .i64 0]) ?_ 1 _ rfl; (with_reducible repeat (first | refine blk_drewN ?_ _ | refine blk_drew ?_ | refine blk_alloc ?_ _)); refine blk_put (cs := #[.bool false, .int .i64 0, .int .i64 0, .int .i64 0, .int .i64 0, .int .i64 0, .int .i64 0, .int .i64 0]) ?_ 0 _ rfl; (with_reducible repeat (first | refine blk_drewN ?_ _ | refine blk_drew ?_ | refine blk_alloc ?_ _)); exact BK192.out) hb); have n2_ := Aside0.mk (below_step (by repeat (first | (with_reducible first | exact HB.out | apply below_alloc | apply pw_below_drewN | apply below_drew1 | refine below_set ?_ GE191.out | refine below_set ?_ GE192.out) | exact HB.out)) hb); clear BK191; clear BK192; clear HB; have BK191 := n0_; have BK192 := n1_; have HB := n2_; clear n0_ n1_ n2_; (try clear hb); (try clear hb2); (try clear hk); (try clear hi); have hcz15_0 : w14.cell? ⟨gb192, 0, none⟩ = some (.bool true) := (blk_cell BK192.out 0).trans rfl; have hcz15_1 : w14.cell? ⟨gb192, 1, none⟩ = some (.int .i64 a0_1) := (blk_cell BK192.out 1).trans rfl; have hcz15_2 : w14.cell? ⟨gb192, 2, none⟩ = some (.int .i64 a0_2) := (blk_cell BK192.out 2).trans rfl; have hcz15_3 : w14.cell? ⟨gb192, 3, none⟩ = some (.int .i64 a0_3) := (blk_cell BK192.out 3).trans rfl; have hcz15_4 : w14.cell? ⟨gb192, 4, none⟩ = some (.int .i64 a0_4) := (blk_cell BK192.out 4).trans rfl; have hcz15_5 : w14.cell? ⟨gb192, 5, none⟩ = some (.int .i64 a0_5) := (blk_cell BK192.out 5).trans rfl; have hcz15_6 : w14.cell? ⟨gb192, 6, none⟩ = some (.int .i64 a0_6) := (blk_cell BK192.out 6).trans rfl; have hcz15_7 : w14.cell? ⟨gb192, 7, none⟩ = some (.int .i64 a0_7) := (blk_cell BK192.out 7).trans rfl; have hfz15_0 := blk_frozen BK192.out 0; have hfz15_1 := blk_frozen BK192.out 1; have hfz15_2 := blk_frozen BK192.out 2; have hfz15_3 := blk_frozen BK192.out 3; have hfz15_4 := blk_frozen BK192.out 4; have hfz15_5 := blk_frozen BK192.out 5; have hfz15_6 := blk_frozen BK192.out 6; have hfz15_7 := blk_frozen BK192.out 7) | (go_at_call 5; (with_reducible refine (laws_intervalRight.calls true a0_1 a0_2 a0_3 a0_4 a0_5 a0_6 a0_7 t194 _ A11.out).mono ?_); rintro e w16 ⟨rfl, hb⟩; have n0_ := Aside0.mk (blk_below (g := gb191) (o := .cells #[.bool false, .int .i64 a0_1, .int .i64 a0_2, .int .i64 a0_3, .int .i64 a0_4, .int .i64 a0_5, .int .i64 a0_6, .int .i64 a0_7] 23 (0, 0)) (by (with_reducible repeat (first | refine blk_drewN ?_ _ | refine blk_drew ?_ | refine blk_alloc ?_ _)); exact BK191.out) hb); have n1_ := Aside0.mk (blk_below (g := gb192) (o := .cells #[.bool true, .int .i64 a0_1, .int .i64 a0_2, .int .i64 a0_3, .int .i64 a0_4, .int .i64 a0_5, .int .i64 a0_6, .int .i64 a0_7] 23 (0, 0)) (by (with_reducible repeat (first | refine blk_drewN ?_ _ | refine blk_drew ?_ | refine blk_alloc ?_ _)); exact BK192.out) hb); have n2_ := Aside0.mk (below_step (by repeat (first | (with_reducible first | exact HB.out | apply below_alloc | apply pw_below_drewN | apply below_drew1 | refine below_set ?_ GE191.out | refine below_set ?_ GE192.out) | exact HB.out)) hb); clear BK191; clear BK192; clear HB; have BK191 := n0_; have BK192 := n1_; have HB := n2_; clear n0_ n1_ n2_; (try clear hb); (try clear hb2); (try clear hk); (try clear hi)))
      go_meet
      case rel => exact ⟨_, (!t194), (by first | rfl | (simp; done) | (simp [*]; done)), H', ⟨by first | omega | exact Nat.le_refl _⟩, ⟨by (with_reducible repeat (first | refine blk_drewN ?_ _ | refine blk_drew ?_ | refine blk_alloc ?_ _)); exact BK191.out⟩, ⟨by (with_reducible repeat (first | refine blk_drewN ?_ _ | refine blk_drew ?_ | refine blk_alloc ?_ _)); exact BK192.out⟩, ⟨by repeat (first | (with_reducible first | exact HB.out | apply below_alloc | apply pw_below_drewN | apply below_drew1 | refine below_set ?_ GE191.out | refine below_set ?_ GE192.out) | exact HB.out)⟩⟩
    · replace c10 := Bool.eq_false_iff.mpr c10
      subst c10
      have H1 : (laws_FnIntervalSign.j0 k true false a0_1 a0_2 a0_3 a0_4 a0_5 a0_6 a0_7 true a0_1 a0_2 a0_3 a0_4 a0_5 a0_6 a0_7) = some r := by rw [if_neg (show ¬ (false = true) by decide)] at H; exact H
      clear H
      have H := H1
      clear H1
      have H' := Aside0.mk H
      clear H
      have hnb17 := NB191_192.out
      have hnc17 := NB192_191.out
      have hcz18_0 : w5.cell? ⟨gb191, 0, none⟩ = some (.bool a0_0) := (blk_cell BK191.out 0).trans rfl
      have hcz18_1 : w5.cell? ⟨gb191, 1, none⟩ = some (.int .i64 a0_1) := (blk_cell BK191.out 1).trans rfl
      have hcz18_2 : w5.cell? ⟨gb191, 2, none⟩ = some (.int .i64 a0_2) := (blk_cell BK191.out 2).trans rfl
      have hcz18_3 : w5.cell? ⟨gb191, 3, none⟩ = some (.int .i64 a0_3) := (blk_cell BK191.out 3).trans rfl
      have hcz18_4 : w5.cell? ⟨gb191, 4, none⟩ = some (.int .i64 a0_4) := (blk_cell BK191.out 4).trans rfl
      have hcz18_5 : w5.cell? ⟨gb191, 5, none⟩ = some (.int .i64 a0_5) := (blk_cell BK191.out 5).trans rfl
      have hcz18_6 : w5.cell? ⟨gb191, 6, none⟩ = some (.int .i64 a0_6) := (blk_cell BK191.out 6).trans rfl
      have hcz18_7 : w5.cell? ⟨gb191, 7, none⟩ = some (.int .i64 a0_7) := (blk_cell BK191.out 7).trans rfl
      have hfz18_0 := blk_frozen BK191.out 0
      have hfz18_1 := blk_frozen BK191.out 1
      have hfz18_2 := blk_frozen BK191.out 2
      have hfz18_3 := blk_frozen BK191.out 3
      have hfz18_4 := blk_frozen BK191.out 4
      have hfz18_5 := blk_frozen BK191.out 5
      have hfz18_6 := blk_frozen BK191.out 6
      have hfz18_7 := blk_frozen BK191.out 7
      go_wp2_with (first | ((with_reducible refine gate_callee (f := 5) rfl ?_); refine goesL_ (some 10) rfl rfl Tryd.func5 (by kernel_rfl) rfl #[.agg #[.bool false, .int .i64 a0_1, .int .i64 a0_2, .int .i64 a0_3, .int .i64 a0_4, .int .i64 a0_5, .int .i64 a0_6, .int .i64 a0_7]] rfl (by (try simp only [List.map_toArray, List.map_cons, List.map_nil]); first | done | rfl | (simp only [List.length_drop, List.length_take]; rfl)) ?_; (with_reducible refine (laws_intervalRight.calls false a0_1 a0_2 a0_3 a0_4 a0_5 a0_6 a0_7 false _ A9.out).mono ?_); rintro e w19 ⟨rfl, hb⟩; refine ⟨_, rfl, ?_⟩; have n0_ := Aside0.mk (blk_below (g := gb191) (o := .cells #[.bool false, .int .i64 a0_1, .int .i64 a0_2, .int .i64 a0_3, .int .i64 a0_4, .int .i64 a0_5, .int .i64 a0_6, .int .i64 a0_7] 23 (0, 0)) (by (with_reducible repeat (first | refine blk_drewN ?_ _ | refine blk_drew ?_ | refine blk_alloc ?_ _)); refine blk_far ?_ NB191_192.out _; (with_reducible repeat (first | refine blk_drewN ?_ _ | refine blk_drew ?_ | refine blk_alloc ?_ _)); refine blk_put (cs := #[.bool a0_0, .int .i64 a0_1, .int .i64 a0_2, .int .i64 a0_3, .int .i64 a0_4, .int .i64 a0_5, .int .i64 a0_6, .int .i64 a0_7]) ?_ 0 _ rfl; (with_reducible repeat (first | refine blk_drewN ?_ _ | refine blk_drew ?_ | refine blk_alloc ?_ _)); refine blk_far ?_ NB191_192.out _; (with_reducible repeat (first | refine blk_drewN ?_ _ | refine blk_drew ?_ | refine blk_alloc ?_ _)); refine blk_far ?_ NB191_192.out _; (with_reducible repeat (first | refine blk_drewN ?_ _ | refine blk_drew ?_ | refine blk_alloc ?_ _)); refine blk_far ?_ NB191_192.out _; (with_reducible repeat (first | refine blk_drewN ?_ _ | refine blk_drew ?_ | refine blk_alloc ?_ _)); refine blk_far ?_ NB191_192.out _; (with_reducible repeat (first | refine blk_drewN ?_ _ | refine blk_drew ?_ | refine blk_alloc ?_ _)); refine blk_far ?_ NB191_192.out _; (with_reducible repeat (first | refine blk_drewN ?_ _ | refine blk_drew ?_ | refine blk_alloc ?_ _)); refine blk_far ?_ NB191_192.out _; (with_reducible repeat (first | refine blk_drewN ?_ _ | refine blk_drew ?_ | refine blk_alloc ?_ _)); refine blk_far ?_ NB191_192.out _; (with_reducible repeat (first | refine blk_drewN ?_ _ | refine blk_drew ?_ | refine blk_alloc ?_ _)); refine blk_far ?_ NB191_192.out _; (with_reducible repeat (first | refine blk_drewN ?_ _ | refine blk_drew ?_ | refine blk_alloc ?_ _)); exact BK191.out) hb); have n1_ := Aside0.mk (blk_below (g := gb192) (o := .cells #[.bool true, .int .i64 a0_1, .int .i64 a0_2, .int .i64 a0_3, .int .i64 a0_4, .int .i64 a0_5, .int .i64 a0_6, .int .i64 a0_7] 23 (0, 0)) (by (with_reducible repeat (first | refine blk_drewN ?_ _ | refine blk_drew ?_ | refine blk_alloc ?_ _)); refine blk_put (cs := #[.bool a0_0, .int .i64 a0_1, .int .i64 a0_2, .int .i64 a0_3, .int .i64 a0_4, .int .i64 a0_5, .int .i64 a0_6, .int .i64 a0_7]) ?_ 0 _ rfl; (with_reducible repeat (first | refine blk_drewN ?_ _ | refine blk_drew ?_ | refine blk_alloc ?_ _)); refine blk_far ?_ NB192_191.out _; (with_reducible repeat (first | refine blk_drewN ?_ _ | refine blk_drew ?_ | refine blk_alloc ?_ _)); refine blk_put (cs := #[.bool a0_0, .int .i64 a0_1, .int .i64 a0_2, .int .i64 a0_3, .int .i64 a0_4, .int .i64 a0_5, .int .i64 a0_6, .int .i64 0]) ?_ 7 _ rfl; (with_reducible repeat (first | refine blk_drewN ?_ _ | refine blk_drew ?_ | refine blk_alloc ?_ _)); refine blk_put (cs := #[.bool a0_0, .int .i64 a0_1, .int .i64 a0_2, .int .i64 a0_3, .int .i64 a0_4, .int .i64 a0_5, .int .i64 0, .int .i64 0]) ?_ 6 _ rfl; (with_reducible repeat (first | refine blk_drewN ?_ _ | refine blk_drew ?_ | refine blk_alloc ?_ _)); refine blk_put (cs := #[.bool a0_0, .int .i64 a0_1, .int .i64 a0_2, .int .i64 a0_3, .int .i64 a0_4, .int .i64 0, .int .i64 0, .int .i64 0]) ?_ 5 _ rfl; (with_reducible repeat (first | refine blk_drewN ?_ _ | refine blk_drew ?_ | refine blk_alloc ?_ _)); refine blk_put (cs := #[.bool a0_0, .int .i64 a0_1, .int .i64 a0_2, .int .i64 a0_3, .int .i64 0, .int .i64 0, .int .i64 0, .int .i64 0]) ?_ 4 _ rfl; (with_reducible repeat (first | refine blk_drewN ?_ _ | refine blk_drew ?_ | refine blk_alloc ?_ _)); refine blk_put (cs := #[.bool a0_0, .int .i64 a0_1, .int .i64 a0_2, .int .i64 0, .int .i64 0, .int .i64 0, .int .i64 0, .int .i64 0]) ?_ 3 _ rfl; (with_reducible repeat (first | refine blk_drewN ?_ _ | refine blk_drew ?_ | refine blk_alloc ?_ _)); refine blk_put (cs := #[.bool a0_0, .int .i64 a0_1, .int .i64 0, .int .i64 0, .int .i64 0, .int .i64 0, .int .i64 0, .int .i64 0]) ?_ 2 _ rfl; (with_reducible repeat (first | refine blk_drewN ?_ _ | refine blk_drew ?_ | refine blk_alloc ?_ _)); refine blk_put (cs := #[.bool a0_0, .int .i64 0, .int .i64 0, .int .i64 0, .int .i64 0, .int .i64 0, .int .i64 0, .int .i64 0]) ?_ 1 _ rfl; (with_reducible repeat (first | refine blk_drewN ?_ _ | refine blk_drew ?_ | refine blk_alloc ?_ _)); refine blk_put (cs := #[.bool false, .int .i64 0, .int .i64 0, .int .i64 0, .int .i64 0, .int .i64 0, .int .i64 0, .int .i64 0]) ?_ 0 _ rfl; (with_reducible repeat (first | refine blk_drewN ?_ _ | refine blk_drew ?_ | refine blk_alloc ?_ _)); exact BK192.out) hb); have n2_ := Aside0.mk (below_step (by repeat (first | (with_reducible first | exact HB.out | apply below_alloc | apply pw_below_drewN | apply below_drew1 | refine below_set ?_ GE191.out | refine below_set ?_ GE192.out) | exact HB.out)) hb); clear BK191; clear BK192; clear HB; have BK191 := n0_; have BK192 := n1_; have HB := n2_; clear n0_ n1_ n2_; (try clear hb); (try clear hb2); (try clear hk); (try clear hi)))
      go_meet
      case rel => exact ⟨_, (true), (by first | rfl | (simp; done) | (simp [*]; done)), H', ⟨by first | omega | exact Nat.le_refl _⟩, ⟨by (with_reducible repeat (first | refine blk_drewN ?_ _ | refine blk_drew ?_ | refine blk_alloc ?_ _)); exact BK191.out⟩, ⟨by (with_reducible repeat (first | refine blk_drewN ?_ _ | refine blk_drew ?_ | refine blk_alloc ?_ _)); exact BK192.out⟩, ⟨by repeat (first | (with_reducible first | exact HB.out | apply below_alloc | apply pw_below_drewN | apply below_drew1 | refine below_set ?_ GE191.out | refine below_set ?_ GE192.out) | exact HB.out)⟩⟩
  case rest =>
    clear HC2
    try clear c1
    try clear p2
    try clear c4
    try clear c5
    try clear c6
    try clear c10
    try clear c12
    try clear c17
    try clear hcz13_0
    try clear hcz13_1
    try clear hcz13_2
    try clear hcz13_3
    try clear hcz13_4
    try clear hcz13_5
    try clear hcz13_6
    try clear hcz13_7
    try clear hcz15_0
    try clear hcz15_1
    try clear hcz15_2
    try clear hcz15_3
    try clear hcz15_4
    try clear hcz15_5
    try clear hcz15_6
    try clear hcz15_7
    try clear hcz18_0
    try clear hcz18_1
    try clear hcz18_2
    try clear hcz18_3
    try clear hcz18_4
    try clear hcz18_5
    try clear hcz18_6
    try clear hcz18_7
    try clear hcz4_0
    try clear hcz4_1
    try clear hcz4_2
    try clear hcz4_3
    try clear hcz4_4
    try clear hcz4_5
    try clear hcz4_6
    try clear hcz4_7
    try clear hcz7_0
    try clear hcz7_1
    try clear hcz7_2
    try clear hcz7_3
    try clear hcz7_4
    try clear hcz7_5
    try clear hcz7_6
    try clear hcz7_7
    try clear hcz8_0
    try clear hcz8_1
    try clear hcz8_2
    try clear hcz8_3
    try clear hcz8_4
    try clear hcz8_5
    try clear hcz8_6
    try clear hcz8_7
    try clear hfz13_0
    try clear hfz13_1
    try clear hfz13_2
    try clear hfz13_3
    try clear hfz13_4
    try clear hfz13_5
    try clear hfz13_6
    try clear hfz13_7
    try clear hfz15_0
    try clear hfz15_1
    try clear hfz15_2
    try clear hfz15_3
    try clear hfz15_4
    try clear hfz15_5
    try clear hfz15_6
    try clear hfz15_7
    try clear hfz18_0
    try clear hfz18_1
    try clear hfz18_2
    try clear hfz18_3
    try clear hfz18_4
    try clear hfz18_5
    try clear hfz18_6
    try clear hfz18_7
    try clear hfz4_0
    try clear hfz4_1
    try clear hfz4_2
    try clear hfz4_3
    try clear hfz4_4
    try clear hfz4_5
    try clear hfz4_6
    try clear hfz4_7
    try clear hfz7_0
    try clear hfz7_1
    try clear hfz7_2
    try clear hfz7_3
    try clear hfz7_4
    try clear hfz7_5
    try clear hfz7_6
    try clear hfz7_7
    try clear hfz8_0
    try clear hfz8_1
    try clear hfz8_2
    try clear hfz8_3
    try clear hfz8_4
    try clear hfz8_5
    try clear hfz8_6
    try clear hfz8_7
    obtain ⟨kq, x16_1, rfl, HA, HJ1, BK191, BK192, HB⟩ := hcut
    cases kq with
    | zero => exact absurd HA.out (by simp [laws_FnIntervalSign.j0])
    | succ kj1 =>
      have H := HA.out
      clear HA
      simp only [laws_FnIntervalSign.j0] at H
      by_cases c20 : x16_1 = true
      · subst c20
        have H1 : ((laws_intervalsLive.f kj1).bind fun t195 => (some t195)) = some r := by rw [if_pos rfl] at H; exact H
        clear H
        have H := H1
        clear H1
        replace H := Option.bind_eq_some_iff.mp H
        obtain ⟨t195, A210, H⟩ := H
        replace H : (some t195) = some r := H
        have A21 := Aside0.mk A210
        clear A210
        obtain rfl := Option.some.inj H
        go_wp2_with (first | ((with_reducible refine gate_callee (f := 6) rfl ?_); refine goesL_ (some 17) rfl rfl Tryd.func6 (by kernel_rfl) rfl #[] rfl (by (try simp only [List.map_toArray, List.map_cons, List.map_nil]); first | done | rfl | (simp only [List.length_drop, List.length_take]; rfl)) ?_; (with_reducible refine (laws_intervalsLive.calls kj1  t195 _ A21.out ?side99).mono ?_); (case side99 => exact HT.out _ (by repeat (first | (with_reducible first | exact HB.out | apply below_alloc | apply pw_below_drewN | apply below_drew1 | refine below_set ?_ GE191.out | refine below_set ?_ GE192.out) | exact HB.out))); rintro e w22 ⟨rfl, hb⟩; refine ⟨_, rfl, ?_⟩; have n0_ := Aside0.mk (blk_below (g := gb191) (o := .cells #[.bool false, .int .i64 a0_1, .int .i64 a0_2, .int .i64 a0_3, .int .i64 a0_4, .int .i64 a0_5, .int .i64 a0_6, .int .i64 a0_7] 23 (0, 0)) (by (with_reducible repeat (first | refine blk_drewN ?_ _ | refine blk_drew ?_ | refine blk_alloc ?_ _)); exact BK191.out) hb); have n1_ := Aside0.mk (blk_below (g := gb192) (o := .cells #[.bool true, .int .i64 a0_1, .int .i64 a0_2, .int .i64 a0_3, .int .i64 a0_4, .int .i64 a0_5, .int .i64 a0_6, .int .i64 a0_7] 23 (0, 0)) (by (with_reducible repeat (first | refine blk_drewN ?_ _ | refine blk_drew ?_ | refine blk_alloc ?_ _)); exact BK192.out) hb); have n2_ := Aside0.mk (below_step (by repeat (first | (with_reducible first | exact HB.out | apply below_alloc | apply pw_below_drewN | apply below_drew1 | refine below_set ?_ GE191.out | refine below_set ?_ GE192.out) | exact HB.out)) hb); clear BK191; clear BK192; clear HB; have BK191 := n0_; have BK192 := n1_; have HB := n2_; clear n0_ n1_ n2_; (try clear hb); (try clear hb2); (try clear hk); (try clear hi)))
        go_ret
        exact ⟨by first | rfl | (simp [errW_none, errW_some] <;> rfl) | (simp [*, errW_none, errW_some] <;> rfl), by repeat (first | (with_reducible first | exact HB.out | apply below_alloc | apply pw_below_drewN | apply below_drew1 | refine below_set ?_ GE191.out | refine below_set ?_ GE192.out) | exact HB.out)⟩
      · replace c20 := Bool.eq_false_iff.mpr c20
        subst c20
        have H1 : ((spec_IntervalDays.f false a0_1 a0_2 a0_3 a0_4 a0_5 a0_6 a0_7).bind fun t196 => ((impl_IntervalDays.f kj1 t196).bind fun t199 => ((spec_IntervalDays.f true a0_1 a0_2 a0_3 a0_4 a0_5 a0_6 a0_7).bind fun t200 => ((impl_IntervalDays.f kj1 t200).bind fun t203 => (if (t199.size : Int) > 1 then (if (t203.size : Int) > 1 then (if 0 < (t199.size : Int) then (if (bt t199 0) = 43 then (if 0 < (t203.size : Int) then (if (bt t203 0) = 45 then (if 1 ≤ (t199.size : Int) then (if 1 ≤ (t203.size : Int) then (if (t199.extract 1 t199.size).toList = (t203.extract 1 t203.size).toList then ((laws_intervalsLive.f kj1).bind fun t204 => (some t204)) else (none)) else (none)) else (none)) else (none)) else (none)) else (none)) else (none)) else (none)) else (none)))))) = some r := by rw [if_neg (show ¬ (false = true) by decide)] at H; exact H
        clear H
        have H := H1
        clear H1
        replace H := Option.bind_eq_some_iff.mp H
        obtain ⟨t196, A230, H⟩ := H
        replace H : ((impl_IntervalDays.f kj1 t196).bind fun t199 => ((spec_IntervalDays.f true a0_1 a0_2 a0_3 a0_4 a0_5 a0_6 a0_7).bind fun t200 => ((impl_IntervalDays.f kj1 t200).bind fun t203 => (if (t199.size : Int) > 1 then (if (t203.size : Int) > 1 then (if 0 < (t199.size : Int) then (if (bt t199 0) = 43 then (if 0 < (t203.size : Int) then (if (bt t203 0) = 45 then (if 1 ≤ (t199.size : Int) then (if 1 ≤ (t203.size : Int) then (if (t199.extract 1 t199.size).toList = (t203.extract 1 t203.size).toList then ((laws_intervalsLive.f kj1).bind fun t204 => (some t204)) else (none)) else (none)) else (none)) else (none)) else (none)) else (none)) else (none)) else (none)) else (none))))) = some r := H
        have A23 := Aside0.mk A230
        clear A230
        replace H := Option.bind_eq_some_iff.mp H
        obtain ⟨t199, A240, H⟩ := H
        replace H : ((spec_IntervalDays.f true a0_1 a0_2 a0_3 a0_4 a0_5 a0_6 a0_7).bind fun t200 => ((impl_IntervalDays.f kj1 t200).bind fun t203 => (if (t199.size : Int) > 1 then (if (t203.size : Int) > 1 then (if 0 < (t199.size : Int) then (if (bt t199 0) = 43 then (if 0 < (t203.size : Int) then (if (bt t203 0) = 45 then (if 1 ≤ (t199.size : Int) then (if 1 ≤ (t203.size : Int) then (if (t199.extract 1 t199.size).toList = (t203.extract 1 t203.size).toList then ((laws_intervalsLive.f kj1).bind fun t204 => (some t204)) else (none)) else (none)) else (none)) else (none)) else (none)) else (none)) else (none)) else (none)) else (none)))) = some r := H
        have A24 := Aside0.mk A240
        clear A240
        replace H := Option.bind_eq_some_iff.mp H
        obtain ⟨t200, A250, H⟩ := H
        replace H : ((impl_IntervalDays.f kj1 t200).bind fun t203 => (if (t199.size : Int) > 1 then (if (t203.size : Int) > 1 then (if 0 < (t199.size : Int) then (if (bt t199 0) = 43 then (if 0 < (t203.size : Int) then (if (bt t203 0) = 45 then (if 1 ≤ (t199.size : Int) then (if 1 ≤ (t203.size : Int) then (if (t199.extract 1 t199.size).toList = (t203.extract 1 t203.size).toList then ((laws_intervalsLive.f kj1).bind fun t204 => (some t204)) else (none)) else (none)) else (none)) else (none)) else (none)) else (none)) else (none)) else (none)) else (none))) = some r := H
        have A25 := Aside0.mk A250
        clear A250
        replace H := Option.bind_eq_some_iff.mp H
        obtain ⟨t203, A260, H⟩ := H
        replace H : (if (t199.size : Int) > 1 then (if (t203.size : Int) > 1 then (if 0 < (t199.size : Int) then (if (bt t199 0) = 43 then (if 0 < (t203.size : Int) then (if (bt t203 0) = 45 then (if 1 ≤ (t199.size : Int) then (if 1 ≤ (t203.size : Int) then (if (t199.extract 1 t199.size).toList = (t203.extract 1 t203.size).toList then ((laws_intervalsLive.f kj1).bind fun t204 => (some t204)) else (none)) else (none)) else (none)) else (none)) else (none)) else (none)) else (none)) else (none)) else (none)) = some r := H
        have A26 := Aside0.mk A260
        clear A260
        by_cases c27 : (t199.size : Int) > 1
        · rw [if_pos c27] at H
          have c27b0 : decide (1 < (t199.size : Int)) = true := decide_eq_true c27
          have c27b1 : decide (1 < t199.size) = true := decide_eq_true (by omega)
          clear c27
          by_cases c28 : (t203.size : Int) > 1
          · rw [if_pos c28] at H
            have c28b0 : decide (1 < (t203.size : Int)) = true := decide_eq_true c28
            have c28b1 : decide (1 < t203.size) = true := decide_eq_true (by omega)
            clear c28
            by_cases c29 : 0 < (t199.size : Int)
            · rw [if_pos c29] at H
              have c29b0 : decide (0 < (t199.size : Int)) = true := decide_eq_true c29
              have c29b1 : decide (0 < t199.size) = true := decide_eq_true (by omega)
              clear c29
              by_cases c31 : (bt t199 0) = 43
              · rw [if_pos c31] at H
                have c31b0 : ((bt t199 0) == 43) = true := beq_iff_eq.mpr c31
                have c31b1 : ((bt t199 0) != 43) = false := bne_eq_false_iff_eq.mpr c31
                clear c31
                by_cases c32 : 0 < (t203.size : Int)
                · rw [if_pos c32] at H
                  have c32b0 : decide (0 < (t203.size : Int)) = true := decide_eq_true c32
                  have c32b1 : decide (0 < t203.size) = true := decide_eq_true (by omega)
                  clear c32
                  by_cases c34 : (bt t203 0) = 45
                  · rw [if_pos c34] at H
                    have c34b0 : ((bt t203 0) == 45) = true := beq_iff_eq.mpr c34
                    have c34b1 : ((bt t203 0) != 45) = false := bne_eq_false_iff_eq.mpr c34
                    clear c34
                    by_cases c35 : 1 ≤ (t199.size : Int)
                    · rw [if_pos c35] at H
                      have c35b0 := eq_true c35
                      have c35b1 : decide (1 ≤ (t199.size : Int)) = true := decide_eq_true c35
                      clear c35
                      by_cases c36 : 1 ≤ (t203.size : Int)
                      · rw [if_pos c36] at H
                        have c36b0 := eq_true c36
                        have c36b1 : decide (1 ≤ (t203.size : Int)) = true := decide_eq_true c36
                        clear c36
                        by_cases c37 : (t199.extract 1 t199.size).toList = (t203.extract 1 t203.size).toList
                        · rw [if_pos c37] at H
                          have c37b0 : ((t199.extract 1 t199.size).toList == (t203.extract 1 t203.size).toList) = true := beq_iff_eq.mpr c37
                          have c37b1 : ((t199.extract 1 t199.size).toList != (t203.extract 1 t203.size).toList) = false := bne_eq_false_iff_eq.mpr c37
                          clear c37
                          replace H := Option.bind_eq_some_iff.mp H
                          obtain ⟨t204, A380, H⟩ := H
                          replace H : (some t204) = some r := H
                          have A38 := Aside0.mk A380
                          clear A380
                          obtain rfl := Option.some.inj H
                          try go_wp2
                          have n0_ := Aside0.mk (blk_drew BK191.out)
                          have n1_ := Aside0.mk (blk_drew BK192.out)
                          have n2_ := Aside0.mk (below_drew1 HB.out)
                          clear BK191
                          clear BK192
                          clear HB
                          have BK191 := n0_
                          have BK192 := n1_
                          have HB := n2_
                          clear n0_ n1_ n2_
                          refine start_ (n := 8) (S := fun w' => w'.cell? ⟨gb191, 0, none⟩ = some (.bool false) ∧ w'.cell? ⟨gb191, 1, none⟩ = some (.int .i64 a0_1) ∧ w'.cell? ⟨gb191, 2, none⟩ = some (.int .i64 a0_2) ∧ w'.cell? ⟨gb191, 3, none⟩ = some (.int .i64 a0_3) ∧ w'.cell? ⟨gb191, 4, none⟩ = some (.int .i64 a0_4) ∧ w'.cell? ⟨gb191, 5, none⟩ = some (.int .i64 a0_5) ∧ w'.cell? ⟨gb191, 6, none⟩ = some (.int .i64 a0_6) ∧ w'.cell? ⟨gb191, 7, none⟩ = some (.int .i64 a0_7) ∧ w'.cell? ⟨gb192, 0, none⟩ = some (.bool true) ∧ w'.cell? ⟨gb192, 1, none⟩ = some (.int .i64 a0_1) ∧ w'.cell? ⟨gb192, 2, none⟩ = some (.int .i64 a0_2) ∧ w'.cell? ⟨gb192, 3, none⟩ = some (.int .i64 a0_3) ∧ w'.cell? ⟨gb192, 4, none⟩ = some (.int .i64 a0_4) ∧ w'.cell? ⟨gb192, 5, none⟩ = some (.int .i64 a0_5) ∧ w'.cell? ⟨gb192, 6, none⟩ = some (.int .i64 a0_6) ∧ w'.cell? ⟨gb192, 7, none⟩ = some (.int .i64 a0_7)) (ds := []) #[false, false, false, false, false, false, false, false] (by kernel_rfl) rfl rfl ⟨(blk_cell BK191.out 0).trans rfl, (blk_cell BK191.out 1).trans rfl, (blk_cell BK191.out 2).trans rfl, (blk_cell BK191.out 3).trans rfl, (blk_cell BK191.out 4).trans rfl, (blk_cell BK191.out 5).trans rfl, (blk_cell BK191.out 6).trans rfl, (blk_cell BK191.out 7).trans rfl, (blk_cell BK192.out 0).trans rfl, (blk_cell BK192.out 1).trans rfl, (blk_cell BK192.out 2).trans rfl, (blk_cell BK192.out 3).trans rfl, (blk_cell BK192.out 4).trans rfl, (blk_cell BK192.out 5).trans rfl, (blk_cell BK192.out 6).trans rfl, (blk_cell BK192.out 7).trans rfl⟩ (fun hHeld => ?_); refine with_tabW laws_FnIntervalSign.tab5 laws_FnIntervalSign.bits5 (fun HT_ HW_ => ?_)
                          generalize wc.drew = w39 at BK191 BK192 HB hHeld ⊢
                          refine take_ (i := 0) (N := some 18) (v := ?_) (a' := ?_) #[true, false, false, false, false, false, false, false] rfl rfl (take_ofW HT_.out HW_.out (by kernel_rfl)) (fun _ _ _ h => h) (Or.inl ⟨by rfl, ?_⟩) hHeld ?_ ?_
                          rotate_left
                          · rintro w' ⟨s0, s1, s2, s3, s4, s5, s6, s7, s8, s9, s10, s11, s12, s13, s14, s15⟩
                            go_simp
                            with_reducible rfl
                          rotate_left
                          · simp only [Act.put, List.setIfInBounds_toArray, List.set_cons_zero, List.set_cons_succ, i64_w, i32_w]
                            rfl
                          refine take_ (i := 3) (N := some 21) (v := ?_) (a' := ?_) #[true, false, false, true, false, false, false, false] rfl rfl (take_ofW HT_.out HW_.out (by kernel_rfl)) (fun _ _ _ h => h) (Or.inl ⟨by rfl, ?_⟩) hHeld ?_ ?_
                          rotate_left
                          · rintro w' ⟨s0, s1, s2, s3, s4, s5, s6, s7, s8, s9, s10, s11, s12, s13, s14, s15⟩
                            go_simp
                            with_reducible rfl
                          rotate_left
                          · simp only [Act.put, List.setIfInBounds_toArray, List.set_cons_zero, List.set_cons_succ, i64_w, i32_w]
                            rfl
                          refine one_ (i := 1) (N := some 19) #[true, true, false, true, false, false, false, false] rfl rfl (one_of HT_.out (by kernel_rfl)) (by decide) (fun K hK => ?_)
                          refine goes_ Tryd.func8 (by kernel_rfl) rfl #[.agg #[.bool false, .int .i64 a0_1, .int .i64 a0_2, .int .i64 a0_3, .int .i64 a0_4, .int .i64 a0_5, .int .i64 a0_6, .int .i64 a0_7]] (by rfl) rfl rfl (by (try simp only [List.map_toArray, List.map_cons, List.map_nil]); first | done | rfl | (simp only [List.length_drop, List.length_take]; rfl)) ?_
                          with_reducible refine (spec_IntervalDays.calls false a0_1 a0_2 a0_3 a0_4 a0_5 a0_6 a0_7 t196 _ A23.out).mono ?_
                          rintro e w40 ⟨v197, rfl, ho0, hb⟩
                          refine ⟨_, rfl, ?_⟩
                          have n0_ := Aside0.mk (Kd.R_lower ho0 (below_size (by repeat (first | (with_reducible first | exact HB.out | apply below_alloc | apply pw_below_drewN | apply below_drew1 | refine below_set ?_ GE191.out | refine below_set ?_ GE192.out) | exact HB.out))))
                          have n1_ := Aside0.mk (blk_below (g := gb191) (o := .cells #[.bool false, .int .i64 a0_1, .int .i64 a0_2, .int .i64 a0_3, .int .i64 a0_4, .int .i64 a0_5, .int .i64 a0_6, .int .i64 a0_7] 23 (0, 0)) (by (with_reducible repeat (first | refine blk_drewN ?_ _ | refine blk_drew ?_ | refine blk_alloc ?_ _)); exact BK191.out) hb)
                          have n2_ := Aside0.mk (blk_below (g := gb192) (o := .cells #[.bool true, .int .i64 a0_1, .int .i64 a0_2, .int .i64 a0_3, .int .i64 a0_4, .int .i64 a0_5, .int .i64 a0_6, .int .i64 a0_7] 23 (0, 0)) (by (with_reducible repeat (first | refine blk_drewN ?_ _ | refine blk_drew ?_ | refine blk_alloc ?_ _)); exact BK192.out) hb)
                          have n3_ := Aside0.mk (below_step (by repeat (first | (with_reducible first | exact HB.out | apply below_alloc | apply pw_below_drewN | apply below_drew1 | refine below_set ?_ GE191.out | refine below_set ?_ GE192.out) | exact HB.out)) hb)
                          clear BK191
                          clear BK192
                          clear HB
                          have HO198 := n0_
                          have BK191 := n1_
                          have BK192 := n2_
                          have HB := n3_
                          clear n0_ n1_ n2_ n3_
                          (try clear hb)
                          (try clear hb2)
                          (try clear hk)
                          (try clear hi)
                          (try clear ho0)
                          obtain ⟨Ao41, co41, eo41⟩ := Kd.R_slice HO198.out
                          (first | subst eo41 | (injection eo41 with f1_ f2_ f3_; have f4_ := f1_.symm; have f5_ := f3_.symm; clear f1_ f2_ f3_; subst f4_; subst f5_))
                          refine hK.out _ _ ⟨(blk_cell BK191.out 0).trans rfl, (blk_cell BK191.out 1).trans rfl, (blk_cell BK191.out 2).trans rfl, (blk_cell BK191.out 3).trans rfl, (blk_cell BK191.out 4).trans rfl, (blk_cell BK191.out 5).trans rfl, (blk_cell BK191.out 6).trans rfl, (blk_cell BK191.out 7).trans rfl, (blk_cell BK192.out 0).trans rfl, (blk_cell BK192.out 1).trans rfl, (blk_cell BK192.out 2).trans rfl, (blk_cell BK192.out 3).trans rfl, (blk_cell BK192.out 4).trans rfl, (blk_cell BK192.out 5).trans rfl, (blk_cell BK192.out 6).trans rfl, (blk_cell BK192.out 7).trans rfl⟩ (fun hHeld => ?_)
                          clear hK K
                          refine norm_ (a' := ?_) ?_ ?_
                          rotate_left
                          · show Act.put _ (some 19) _ = _
                            simp only [Act.put, List.setIfInBounds_toArray, List.set_cons_zero, List.set_cons_succ, i64_w, i32_w]
                            rfl
                          refine one_ (i := 2) (N := some 20) #[true, true, true, true, false, false, false, false] rfl rfl (one_of HT_.out (by kernel_rfl)) (by decide) (fun K hK => ?_)
                          refine goes_ Tryd.func7 (by kernel_rfl) rfl #[.slice Ao41 t196.length co41] (by rfl) rfl rfl (by (try simp only [List.map_toArray, List.map_cons, List.map_nil]); first | done | rfl | (simp only [List.length_drop, List.length_take]; rfl)) ?_
                          with_reducible refine (impl_IntervalDays.calls kj1 _ _ t196 t199 _ ?side1 ?side2 A24.out ?side99).mono ?_
                          (case side1 => repeat (first | exact (Kd.R_reads' HO198.out).2.2 | (with_reducible refine Kd.C_alloc ?_ _) | (with_reducible refine Kd.C_drewN ?_ _) | (with_reducible refine Kd.C_drew ?_)))
                          (case side2 => exact (Kd.R_reads' HO198.out).2.1)
                          (case side99 => exact HT.out _ (by repeat (first | (with_reducible first | exact HB.out | apply below_alloc | apply pw_below_drewN | apply below_drew1 | refine below_set ?_ GE191.out | refine below_set ?_ GE192.out) | exact HB.out)))
                          rintro e w42 ⟨rfl, hb⟩
                          refine ⟨_, rfl, ?_⟩
                          have n0_ := Aside0.mk (Kd.R_below (by (with_reducible repeat (first | apply Kd.R_alloc | apply Kd.R_drewN | apply Kd.R_drew)); exact HO198.out) hb)
                          have n1_ := Aside0.mk (blk_below (g := gb191) (o := .cells #[.bool false, .int .i64 a0_1, .int .i64 a0_2, .int .i64 a0_3, .int .i64 a0_4, .int .i64 a0_5, .int .i64 a0_6, .int .i64 a0_7] 23 (0, 0)) (by (with_reducible repeat (first | refine blk_drewN ?_ _ | refine blk_drew ?_ | refine blk_alloc ?_ _)); exact BK191.out) hb)
                          have n2_ := Aside0.mk (blk_below (g := gb192) (o := .cells #[.bool true, .int .i64 a0_1, .int .i64 a0_2, .int .i64 a0_3, .int .i64 a0_4, .int .i64 a0_5, .int .i64 a0_6, .int .i64 a0_7] 23 (0, 0)) (by (with_reducible repeat (first | refine blk_drewN ?_ _ | refine blk_drew ?_ | refine blk_alloc ?_ _)); exact BK192.out) hb)
                          have n3_ := Aside0.mk (below_step (by repeat (first | (with_reducible first | exact HB.out | apply below_alloc | apply pw_below_drewN | apply below_drew1 | refine below_set ?_ GE191.out | refine below_set ?_ GE192.out) | exact HB.out)) hb)
                          clear HO198
                          clear BK191
                          clear BK192
                          clear HB
                          have HO198 := n0_
                          have BK191 := n1_
                          have BK192 := n2_
                          have HB := n3_
                          clear n0_ n1_ n2_ n3_
                          (try clear hb)
                          (try clear hb2)
                          (try clear hk)
                          (try clear hi)
                          refine hK.out _ _ ⟨(blk_cell BK191.out 0).trans rfl, (blk_cell BK191.out 1).trans rfl, (blk_cell BK191.out 2).trans rfl, (blk_cell BK191.out 3).trans rfl, (blk_cell BK191.out 4).trans rfl, (blk_cell BK191.out 5).trans rfl, (blk_cell BK191.out 6).trans rfl, (blk_cell BK191.out 7).trans rfl, (blk_cell BK192.out 0).trans rfl, (blk_cell BK192.out 1).trans rfl, (blk_cell BK192.out 2).trans rfl, (blk_cell BK192.out 3).trans rfl, (blk_cell BK192.out 4).trans rfl, (blk_cell BK192.out 5).trans rfl, (blk_cell BK192.out 6).trans rfl, (blk_cell BK192.out 7).trans rfl⟩ (fun hHeld => ?_)
                          clear hK K
                          refine norm_ (a' := ?_) ?_ ?_
                          rotate_left
                          · show Act.put _ (some 20) _ = _
                            simp only [Act.put, List.setIfInBounds_toArray, List.set_cons_zero, List.set_cons_succ, i64_w, i32_w]
                            rfl
                          refine one_ (i := 4) (N := some 22) #[true, true, true, true, true, false, false, false] rfl rfl (one_of HT_.out (by kernel_rfl)) (by decide) (fun K hK => ?_)
                          refine goes_ Tryd.func8 (by kernel_rfl) rfl #[.agg #[.bool true, .int .i64 a0_1, .int .i64 a0_2, .int .i64 a0_3, .int .i64 a0_4, .int .i64 a0_5, .int .i64 a0_6, .int .i64 a0_7]] (by rfl) rfl rfl (by (try simp only [List.map_toArray, List.map_cons, List.map_nil]); first | done | rfl | (simp only [List.length_drop, List.length_take]; rfl)) ?_
                          with_reducible refine (spec_IntervalDays.calls true a0_1 a0_2 a0_3 a0_4 a0_5 a0_6 a0_7 t200 _ A25.out).mono ?_
                          rintro e w43 ⟨v201, rfl, ho0, hb⟩
                          refine ⟨_, rfl, ?_⟩
                          have n0_ := Aside0.mk (Kd.R_elder' (by (with_reducible repeat (first | apply Kd.R_alloc | apply Kd.R_drewN | apply Kd.R_drew)); exact HO198.out) (Kd.R_base ho0) hb)
                          have n1_ := Aside0.mk (Kd.R_lower (Kd.R_new' ho0 (Kd.R_lt (by (with_reducible repeat (first | apply Kd.R_alloc | apply Kd.R_drewN | apply Kd.R_drew)); exact HO198.out))) (below_size (by repeat (first | (with_reducible first | exact HB.out | apply below_alloc | apply pw_below_drewN | apply below_drew1 | refine below_set ?_ GE191.out | refine below_set ?_ GE192.out) | exact HB.out))))
                          have n2_ := Aside0.mk (blk_below (g := gb191) (o := .cells #[.bool false, .int .i64 a0_1, .int .i64 a0_2, .int .i64 a0_3, .int .i64 a0_4, .int .i64 a0_5, .int .i64 a0_6, .int .i64 a0_7] 23 (0, 0)) (by (with_reducible repeat (first | refine blk_drewN ?_ _ | refine blk_drew ?_ | refine blk_alloc ?_ _)); exact BK191.out) hb)
                          have n3_ := Aside0.mk (blk_below (g := gb192) (o := .cells #[.bool true, .int .i64 a0_1, .int .i64 a0_2, .int .i64 a0_3, .int .i64 a0_4, .int .i64 a0_5, .int .i64 a0_6, .int .i64 a0_7] 23 (0, 0)) (by (with_reducible repeat (first | refine blk_drewN ?_ _ | refine blk_drew ?_ | refine blk_alloc ?_ _)); exact BK192.out) hb)
                          have n4_ := Aside0.mk (below_step (by repeat (first | (with_reducible first | exact HB.out | apply below_alloc | apply pw_below_drewN | apply below_drew1 | refine below_set ?_ GE191.out | refine below_set ?_ GE192.out) | exact HB.out)) hb)
                          clear HO198
                          clear BK191
                          clear BK192
                          clear HB
                          have HO198 := n0_
                          have HO202 := n1_
                          have BK191 := n2_
                          have BK192 := n3_
                          have HB := n4_
                          clear n0_ n1_ n2_ n3_ n4_
                          (try clear hb)
                          (try clear hb2)
                          (try clear hk)
                          (try clear hi)
                          (try clear ho0)
                          obtain ⟨Ao44, co44, eo44⟩ := Kd.R_slice HO202.out
                          (first | subst eo44 | (injection eo44 with f1_ f2_ f3_; have f4_ := f1_.symm; have f5_ := f3_.symm; clear f1_ f2_ f3_; subst f4_; subst f5_))
                          refine hK.out _ _ ⟨(blk_cell BK191.out 0).trans rfl, (blk_cell BK191.out 1).trans rfl, (blk_cell BK191.out 2).trans rfl, (blk_cell BK191.out 3).trans rfl, (blk_cell BK191.out 4).trans rfl, (blk_cell BK191.out 5).trans rfl, (blk_cell BK191.out 6).trans rfl, (blk_cell BK191.out 7).trans rfl, (blk_cell BK192.out 0).trans rfl, (blk_cell BK192.out 1).trans rfl, (blk_cell BK192.out 2).trans rfl, (blk_cell BK192.out 3).trans rfl, (blk_cell BK192.out 4).trans rfl, (blk_cell BK192.out 5).trans rfl, (blk_cell BK192.out 6).trans rfl, (blk_cell BK192.out 7).trans rfl⟩ (fun hHeld => ?_)
                          clear hK K
                          refine norm_ (a' := ?_) ?_ ?_
                          rotate_left
                          · show Act.put _ (some 22) _ = _
                            simp only [Act.put, List.setIfInBounds_toArray, List.set_cons_zero, List.set_cons_succ, i64_w, i32_w]
                            rfl
                          refine one_ (i := 5) (N := some 23) #[true, true, true, true, true, true, false, false] rfl rfl (one_of HT_.out (by kernel_rfl)) (by decide) (fun K hK => ?_)
                          refine goes_ Tryd.func7 (by kernel_rfl) rfl #[.slice Ao44 t200.length co44] (by rfl) rfl rfl (by (try simp only [List.map_toArray, List.map_cons, List.map_nil]); first | done | rfl | (simp only [List.length_drop, List.length_take]; rfl)) ?_
                          with_reducible refine (impl_IntervalDays.calls kj1 _ _ t200 t203 _ ?side1 ?side2 A26.out ?side99).mono ?_
                          (case side1 => repeat (first | exact (Kd.R_reads' HO202.out).2.2 | (with_reducible refine Kd.C_alloc ?_ _) | (with_reducible refine Kd.C_drewN ?_ _) | (with_reducible refine Kd.C_drew ?_)))
                          (case side2 => exact (Kd.R_reads' HO202.out).2.1)
                          (case side99 => exact HT.out _ (by repeat (first | (with_reducible first | exact HB.out | apply below_alloc | apply pw_below_drewN | apply below_drew1 | refine below_set ?_ GE191.out | refine below_set ?_ GE192.out) | exact HB.out)))
                          rintro e w45 ⟨rfl, hb⟩
                          refine ⟨_, rfl, ?_⟩
                          have n0_ := Aside0.mk (Kd.R_below (by (with_reducible repeat (first | apply Kd.R_alloc | apply Kd.R_drewN | apply Kd.R_drew)); exact HO198.out) hb)
                          have n1_ := Aside0.mk (Kd.R_below (by (with_reducible repeat (first | apply Kd.R_alloc | apply Kd.R_drewN | apply Kd.R_drew)); exact HO202.out) hb)
                          have n2_ := Aside0.mk (blk_below (g := gb191) (o := .cells #[.bool false, .int .i64 a0_1, .int .i64 a0_2, .int .i64 a0_3, .int .i64 a0_4, .int .i64 a0_5, .int .i64 a0_6, .int .i64 a0_7] 23 (0, 0)) (by (with_reducible repeat (first | refine blk_drewN ?_ _ | refine blk_drew ?_ | refine blk_alloc ?_ _)); exact BK191.out) hb)
                          have n3_ := Aside0.mk (blk_below (g := gb192) (o := .cells #[.bool true, .int .i64 a0_1, .int .i64 a0_2, .int .i64 a0_3, .int .i64 a0_4, .int .i64 a0_5, .int .i64 a0_6, .int .i64 a0_7] 23 (0, 0)) (by (with_reducible repeat (first | refine blk_drewN ?_ _ | refine blk_drew ?_ | refine blk_alloc ?_ _)); exact BK192.out) hb)
                          have n4_ := Aside0.mk (below_step (by repeat (first | (with_reducible first | exact HB.out | apply below_alloc | apply pw_below_drewN | apply below_drew1 | refine below_set ?_ GE191.out | refine below_set ?_ GE192.out) | exact HB.out)) hb)
                          clear HO198
                          clear HO202
                          clear BK191
                          clear BK192
                          clear HB
                          have HO198 := n0_
                          have HO202 := n1_
                          have BK191 := n2_
                          have BK192 := n3_
                          have HB := n4_
                          clear n0_ n1_ n2_ n3_ n4_
                          (try clear hb)
                          (try clear hb2)
                          (try clear hk)
                          (try clear hi)
                          refine hK.out _ _ ⟨(blk_cell BK191.out 0).trans rfl, (blk_cell BK191.out 1).trans rfl, (blk_cell BK191.out 2).trans rfl, (blk_cell BK191.out 3).trans rfl, (blk_cell BK191.out 4).trans rfl, (blk_cell BK191.out 5).trans rfl, (blk_cell BK191.out 6).trans rfl, (blk_cell BK191.out 7).trans rfl, (blk_cell BK192.out 0).trans rfl, (blk_cell BK192.out 1).trans rfl, (blk_cell BK192.out 2).trans rfl, (blk_cell BK192.out 3).trans rfl, (blk_cell BK192.out 4).trans rfl, (blk_cell BK192.out 5).trans rfl, (blk_cell BK192.out 6).trans rfl, (blk_cell BK192.out 7).trans rfl⟩ (fun hHeld => ?_)
                          clear hK K
                          refine norm_ (a' := ?_) ?_ ?_
                          rotate_left
                          · show Act.put _ (some 23) _ = _
                            simp only [Act.put, List.setIfInBounds_toArray, List.set_cons_zero, List.set_cons_succ, i64_w, i32_w]
                            rfl
                          refine pure_ (i := 6) (N := some 4) (v := ?_) (a' := ?_) #[true, true, true, true, true, true, true, false] rfl rfl (any_of HT_.out (by kernel_rfl)) (fun _ _ _ h => h) (Or.inl ⟨by rfl, ?_⟩) ?_ ?_
                          rotate_left
                          · intro w'
                            go_simp
                            with_reducible rfl
                          rotate_left
                          · simp only [Act.put, List.setIfInBounds_toArray, List.set_cons_zero, List.set_cons_succ, i64_w, i32_w]
                            rfl
                          refine pure_ (i := 7) (N := some 5) (v := ?_) (a' := ?_) #[true, true, true, true, true, true, true, true] rfl rfl (any_of HT_.out (by kernel_rfl)) (fun _ _ _ h => h) (Or.inl ⟨by rfl, ?_⟩) ?_ ?_
                          rotate_left
                          · intro w'
                            go_simp
                            with_reducible rfl
                          rotate_left
                          · simp only [Act.put, List.setIfInBounds_toArray, List.set_cons_zero, List.set_cons_succ, i64_w, i32_w]
                            rfl
                          refine done_ (done_of HT_.out (by kernel_rfl)) ?_
                          try go_wp2
                          have n0_ := Aside0.mk (Kd.R_drew HO198.out)
                          have n1_ := Aside0.mk (Kd.R_drew HO202.out)
                          have n2_ := Aside0.mk (blk_drew BK191.out)
                          have n3_ := Aside0.mk (blk_drew BK192.out)
                          have n4_ := Aside0.mk (below_drew1 HB.out)
                          clear HO198
                          clear HO202
                          clear BK191
                          clear BK192
                          clear HB
                          have HO198 := n0_
                          have HO202 := n1_
                          have BK191 := n2_
                          have BK192 := n3_
                          have HB := n4_
                          clear n0_ n1_ n2_ n3_ n4_
                          have p30 : 0 ≤ (0 : Int) := (by omega)
                          have q30 : 0 < t199.size := (by have : (0 : Int) < (t199.size : Int) := of_decide_eq_true (by first | (with_reducible assumption) | assumption); omega)
                          have hx30 : ∀ h : 0 < t199.size, ((t199[0]'h).toNat : Int) = bt t199 0 := bt_at t199 0
                          clear p30
                          have qi30 : (0 < (t199.size : Int)) = True := eq_true (of_decide_eq_true (by first | (with_reducible assumption) | assumption))
                          replace q30 := eq_true q30
                          have p33 : 0 ≤ (0 : Int) := (by omega)
                          have q33 : 0 < t203.size := (by have : (0 : Int) < (t203.size : Int) := of_decide_eq_true (by first | (with_reducible assumption) | assumption); omega)
                          have hx33 : ∀ h : 0 < t203.size, ((t203[0]'h).toNat : Int) = bt t203 0 := bt_at t203 0
                          clear p33
                          have qi33 : (0 < (t203.size : Int)) = True := eq_true (of_decide_eq_true (by first | (with_reducible assumption) | assumption))
                          replace q33 := eq_true q33
                          refine start_ (n := 29) (S := fun w' => True) (ds := []) #[false, false, false, false, false, false, false, false, false, false, false, false, false, false, false, false, false, false, false, false, false, false, false, false, false, false, false, false, false] (by kernel_rfl) rfl rfl trivial (fun hHeld => ?_); refine with_tabW laws_FnIntervalSign.tab6 laws_FnIntervalSign.bits6 (fun HT_ HW_ => ?_)
                          generalize w45.drew = w46 at HO198 HO202 BK191 BK192 HB hHeld ⊢
                          refine pure_ (i := 0) (N := some 24) (v := ?_) (a' := ?_) #[true, false, false, false, false, false, false, false, false, false, false, false, false, false, false, false, false, false, false, false, false, false, false, false, false, false, false, false, false] rfl rfl (any_of HT_.out (by kernel_rfl)) (fun _ _ _ h => h) (Or.inl ⟨by rfl, ?_⟩) ?_ ?_
                          rotate_left
                          · intro w'
                            go_simp
                            with_reducible rfl
                          rotate_left
                          · simp only [Act.put, List.setIfInBounds_toArray, List.set_cons_zero, List.set_cons_succ, i64_w, i32_w]
                            rfl
                          refine pure_ (i := 1) (N := some 25) (v := ?_) (a' := ?_) #[true, true, false, false, false, false, false, false, false, false, false, false, false, false, false, false, false, false, false, false, false, false, false, false, false, false, false, false, false] rfl rfl (any_of HT_.out (by kernel_rfl)) (fun _ _ _ h => h) (Or.inl ⟨by rfl, ?_⟩) ?_ ?_
                          rotate_left
                          · intro w'
                            go_simp
                            with_reducible rfl
                          rotate_left
                          · simp only [Act.put, List.setIfInBounds_toArray, List.set_cons_zero, List.set_cons_succ, i64_w, i32_w]
                            rfl
                          refine pure_ (i := 2) (N := some 26) (v := ?_) (a' := ?_) #[true, true, true, false, false, false, false, false, false, false, false, false, false, false, false, false, false, false, false, false, false, false, false, false, false, false, false, false, false] rfl rfl (any_of HT_.out (by kernel_rfl)) (fun _ _ _ h => h) (Or.inl ⟨by rfl, ?_⟩) ?_ ?_
                          rotate_left
                          · intro w'
                            go_simp
                            with_reducible rfl
                          rotate_left
                          · simp only [Act.put, List.setIfInBounds_toArray, List.set_cons_zero, List.set_cons_succ, i64_w, i32_w]
                            rfl
                          refine pure_ (i := 3) (N := some 27) (v := ?_) (a' := ?_) #[true, true, true, true, false, false, false, false, false, false, false, false, false, false, false, false, false, false, false, false, false, false, false, false, false, false, false, false, false] rfl rfl (any_of HT_.out (by kernel_rfl)) (fun _ _ _ h => h) (Or.inl ⟨by rfl, ?_⟩) ?_ ?_
                          rotate_left
                          · intro w'
                            go_simp
                            with_reducible rfl
                          rotate_left
                          · simp only [Act.put, List.setIfInBounds_toArray, List.set_cons_zero, List.set_cons_succ, i64_w, i32_w]
                            rfl
                          refine pure_ (i := 4) (N := some 28) (v := ?_) (a' := ?_) #[true, true, true, true, true, false, false, false, false, false, false, false, false, false, false, false, false, false, false, false, false, false, false, false, false, false, false, false, false] rfl rfl (any_of HT_.out (by kernel_rfl)) (fun _ _ _ h => h) (Or.inl ⟨by rfl, ?_⟩) ?_ ?_
                          rotate_left
                          · intro w'
                            go_simp
                            with_reducible rfl
                          rotate_left
                          · simp only [Act.put, List.setIfInBounds_toArray, List.set_cons_zero, List.set_cons_succ, i64_w, i32_w]
                            rfl
                          refine pure_ (i := 5) (N := some 29) (v := ?_) (a' := ?_) #[true, true, true, true, true, true, false, false, false, false, false, false, false, false, false, false, false, false, false, false, false, false, false, false, false, false, false, false, false] rfl rfl (any_of HT_.out (by kernel_rfl)) (fun _ _ _ h => h) (Or.inl ⟨by rfl, ?_⟩) ?_ ?_
                          rotate_left
                          · intro w'
                            go_simp
                            with_reducible rfl
                          rotate_left
                          · simp only [Act.put, List.setIfInBounds_toArray, List.set_cons_zero, List.set_cons_succ, i64_w, i32_w]
                            rfl
                          refine pure_ (i := 6) (N := some 30) (v := ?_) (a' := ?_) #[true, true, true, true, true, true, true, false, false, false, false, false, false, false, false, false, false, false, false, false, false, false, false, false, false, false, false, false, false] rfl rfl (any_of HT_.out (by kernel_rfl)) (fun _ _ _ h => h) (Or.inl ⟨by rfl, ?_⟩) ?_ ?_
                          rotate_left
                          · intro w'
                            go_simp
                            with_reducible rfl
                          rotate_left
                          · simp only [Act.put, List.setIfInBounds_toArray, List.set_cons_zero, List.set_cons_succ, i64_w, i32_w]
                            rfl
                          refine pure_ (i := 7) (N := some 31) (v := ?_) (a' := ?_) #[true, true, true, true, true, true, true, true, false, false, false, false, false, false, false, false, false, false, false, false, false, false, false, false, false, false, false, false, false] rfl rfl (any_of HT_.out (by kernel_rfl)) (fun _ _ _ h => h) (Or.inl ⟨by rfl, ?_⟩) ?_ ?_
                          rotate_left
                          · intro w'
                            go_simp
                            with_reducible rfl
                          rotate_left
                          · simp only [Act.put, List.setIfInBounds_toArray, List.set_cons_zero, List.set_cons_succ, i64_w, i32_w]
                            rfl
                          refine pure_ (i := 8) (N := some 32) (v := ?_) (a' := ?_) #[true, true, true, true, true, true, true, true, true, false, false, false, false, false, false, false, false, false, false, false, false, false, false, false, false, false, false, false, false] rfl rfl (any_of HT_.out (by kernel_rfl)) (fun _ _ _ h => h) (Or.inl ⟨by rfl, ?_⟩) ?_ ?_
                          rotate_left
                          · intro w'
                            go_simp
                            with_reducible rfl
                          rotate_left
                          · simp only [Act.put, List.setIfInBounds_toArray, List.set_cons_zero, List.set_cons_succ, i64_w, i32_w]
                            rfl
                          refine pure_ (i := 9) (N := some 33) (v := ?_) (a' := ?_) #[true, true, true, true, true, true, true, true, true, true, false, false, false, false, false, false, false, false, false, false, false, false, false, false, false, false, false, false, false] rfl rfl (any_of HT_.out (by kernel_rfl)) (fun _ _ _ h => h) (Or.inl ⟨by rfl, ?_⟩) ?_ ?_
                          rotate_left
                          · intro w'
                            go_simp
                            with_reducible rfl
                          rotate_left
                          · simp only [Act.put, List.setIfInBounds_toArray, List.set_cons_zero, List.set_cons_succ, i64_w, i32_w]
                            rfl
                          refine take_ (i := 10) (N := some 34) (v := ?_) (a' := ?_) #[true, true, true, true, true, true, true, true, true, true, true, false, false, false, false, false, false, false, false, false, false, false, false, false, false, false, false, false, false] rfl rfl (take_ofW HT_.out HW_.out (by kernel_rfl)) (fun _ _ _ h => h) (Or.inl ⟨by rfl, ?_⟩) hHeld ?_ ?_
                          rotate_left
                          · intro w' _
                            go_simp
                            with_reducible rfl
                          rotate_left
                          · simp only [Act.put, List.setIfInBounds_toArray, List.set_cons_zero, List.set_cons_succ, i64_w, i32_w]
                            rfl
                          refine pure_ (i := 11) (N := some 35) (v := ?_) (a' := ?_) #[true, true, true, true, true, true, true, true, true, true, true, true, false, false, false, false, false, false, false, false, false, false, false, false, false, false, false, false, false] rfl rfl (any_of HT_.out (by kernel_rfl)) (fun _ _ _ h => h) (Or.inl ⟨by rfl, ?_⟩) ?_ ?_
                          rotate_left
                          · intro w'
                            go_simp
                            with_reducible rfl
                          rotate_left
                          · simp only [Act.put, List.setIfInBounds_toArray, List.set_cons_zero, List.set_cons_succ, i64_w, i32_w]
                            rfl
                          refine pure_ (i := 12) (N := some 36) (v := ?_) (a' := ?_) #[true, true, true, true, true, true, true, true, true, true, true, true, true, false, false, false, false, false, false, false, false, false, false, false, false, false, false, false, false] rfl rfl (any_of HT_.out (by kernel_rfl)) (fun _ _ _ h => h) (Or.inl ⟨by rfl, ?_⟩) ?_ ?_
                          rotate_left
                          · intro w'
                            go_simp
                            with_reducible rfl
                          rotate_left
                          · simp only [Act.put, List.setIfInBounds_toArray, List.set_cons_zero, List.set_cons_succ, i64_w, i32_w]
                            rfl
                          refine pure_ (i := 13) (N := some 37) (v := ?_) (a' := ?_) #[true, true, true, true, true, true, true, true, true, true, true, true, true, true, false, false, false, false, false, false, false, false, false, false, false, false, false, false, false] rfl rfl (any_of HT_.out (by kernel_rfl)) (fun _ _ _ h => h) (Or.inl ⟨by rfl, ?_⟩) ?_ ?_
                          rotate_left
                          · intro w'
                            go_simp
                            with_reducible rfl
                          rotate_left
                          · simp only [Act.put, List.setIfInBounds_toArray, List.set_cons_zero, List.set_cons_succ, i64_w, i32_w]
                            rfl
                          refine pure_ (i := 14) (N := some 38) (v := ?_) (a' := ?_) #[true, true, true, true, true, true, true, true, true, true, true, true, true, true, true, false, false, false, false, false, false, false, false, false, false, false, false, false, false] rfl rfl (any_of HT_.out (by kernel_rfl)) (fun _ _ _ h => h) (Or.inl ⟨by rfl, ?_⟩) ?_ ?_
                          rotate_left
                          · intro w'
                            go_simp
                            with_reducible rfl
                          rotate_left
                          · simp only [Act.put, List.setIfInBounds_toArray, List.set_cons_zero, List.set_cons_succ, i64_w, i32_w]
                            rfl
                          refine take_ (i := 15) (N := some 39) (v := ?_) (a' := ?_) #[true, true, true, true, true, true, true, true, true, true, true, true, true, true, true, true, false, false, false, false, false, false, false, false, false, false, false, false, false] rfl rfl (take_ofW HT_.out HW_.out (by kernel_rfl)) (fun _ _ _ h => h) (Or.inl ⟨by rfl, ?_⟩) hHeld ?_ ?_
                          rotate_left
                          · intro w' _
                            go_simp
                            with_reducible rfl
                          rotate_left
                          · simp only [Act.put, List.setIfInBounds_toArray, List.set_cons_zero, List.set_cons_succ, i64_w, i32_w]
                            rfl
                          refine pure_ (i := 16) (N := some 40) (v := ?_) (a' := ?_) #[true, true, true, true, true, true, true, true, true, true, true, true, true, true, true, true, true, false, false, false, false, false, false, false, false, false, false, false, false] rfl rfl (any_of HT_.out (by kernel_rfl)) (fun _ _ _ h => h) (Or.inl ⟨by rfl, ?_⟩) ?_ ?_
                          rotate_left
                          · intro w'
                            go_simp
                            with_reducible rfl
                          rotate_left
                          · simp only [Act.put, List.setIfInBounds_toArray, List.set_cons_zero, List.set_cons_succ, i64_w, i32_w]
                            rfl
                          refine pure_ (i := 17) (N := some 41) (v := ?_) (a' := ?_) #[true, true, true, true, true, true, true, true, true, true, true, true, true, true, true, true, true, true, false, false, false, false, false, false, false, false, false, false, false] rfl rfl (any_of HT_.out (by kernel_rfl)) (fun _ _ _ h => h) (Or.inl ⟨by rfl, ?_⟩) ?_ ?_
                          rotate_left
                          · intro w'
                            go_simp
                            with_reducible rfl
                          rotate_left
                          · simp only [Act.put, List.setIfInBounds_toArray, List.set_cons_zero, List.set_cons_succ, i64_w, i32_w]
                            rfl
                          refine pure_ (i := 18) (N := some 42) (v := ?_) (a' := ?_) #[true, true, true, true, true, true, true, true, true, true, true, true, true, true, true, true, true, true, true, false, false, false, false, false, false, false, false, false, false] rfl rfl (any_of HT_.out (by kernel_rfl)) (fun _ _ _ h => h) (Or.inl ⟨by rfl, ?_⟩) ?_ ?_
                          rotate_left
                          · intro w'
                            go_simp
                            with_reducible rfl
                          rotate_left
                          · simp only [Act.put, List.setIfInBounds_toArray, List.set_cons_zero, List.set_cons_succ, i64_w, i32_w]
                            rfl
                          refine pure_ (i := 19) (N := some 43) (v := ?_) (a' := ?_) #[true, true, true, true, true, true, true, true, true, true, true, true, true, true, true, true, true, true, true, true, false, false, false, false, false, false, false, false, false] rfl rfl (any_of HT_.out (by kernel_rfl)) (fun _ _ _ h => h) (Or.inl ⟨by rfl, ?_⟩) ?_ ?_
                          rotate_left
                          · intro w'
                            go_simp
                            with_reducible rfl
                          rotate_left
                          · simp only [Act.put, List.setIfInBounds_toArray, List.set_cons_zero, List.set_cons_succ, i64_w, i32_w]
                            rfl
                          refine pure_ (i := 20) (N := some 44) (v := ?_) (a' := ?_) #[true, true, true, true, true, true, true, true, true, true, true, true, true, true, true, true, true, true, true, true, true, false, false, false, false, false, false, false, false] rfl rfl (any_of HT_.out (by kernel_rfl)) (fun _ _ _ h => h) (Or.inl ⟨by rfl, ?_⟩) ?_ ?_
                          rotate_left
                          · intro w'
                            go_simp
                            with_reducible rfl
                          rotate_left
                          · simp only [Act.put, List.setIfInBounds_toArray, List.set_cons_zero, List.set_cons_succ, i64_w, i32_w]
                            rfl
                          refine pure_ (i := 21) (N := some 45) (v := ?_) (a' := ?_) #[true, true, true, true, true, true, true, true, true, true, true, true, true, true, true, true, true, true, true, true, true, true, false, false, false, false, false, false, false] rfl rfl (any_of HT_.out (by kernel_rfl)) (fun _ _ _ h => h) (Or.inl ⟨by rfl, ?_⟩) ?_ ?_
                          rotate_left
                          · intro w'
                            go_simp
                            with_reducible rfl
                          rotate_left
                          · simp only [Act.put, List.setIfInBounds_toArray, List.set_cons_zero, List.set_cons_succ, i64_w, i32_w]
                            rfl
                          refine pure_ (i := 22) (N := some 46) (v := ?_) (a' := ?_) #[true, true, true, true, true, true, true, true, true, true, true, true, true, true, true, true, true, true, true, true, true, true, true, false, false, false, false, false, false] rfl rfl (any_of HT_.out (by kernel_rfl)) (fun _ _ _ h => h) (Or.inl ⟨by rfl, ?_⟩) ?_ ?_
                          rotate_left
                          · intro w'
                            go_simp
                            with_reducible rfl
                          rotate_left
                          · simp only [Act.put, List.setIfInBounds_toArray, List.set_cons_zero, List.set_cons_succ, i64_w, i32_w]
                            rfl
                          refine pure_ (i := 23) (N := some 47) (v := ?_) (a' := ?_) #[true, true, true, true, true, true, true, true, true, true, true, true, true, true, true, true, true, true, true, true, true, true, true, true, false, false, false, false, false] rfl rfl (any_of HT_.out (by kernel_rfl)) (fun _ _ _ h => h) (Or.inl ⟨by rfl, ?_⟩) ?_ ?_
                          rotate_left
                          · intro w'
                            go_simp
                            with_reducible rfl
                          rotate_left
                          · simp only [Act.put, List.setIfInBounds_toArray, List.set_cons_zero, List.set_cons_succ, i64_w, i32_w]
                            rfl
                          refine pure_ (i := 24) (N := some 48) (v := ?_) (a' := ?_) #[true, true, true, true, true, true, true, true, true, true, true, true, true, true, true, true, true, true, true, true, true, true, true, true, true, false, false, false, false] rfl rfl (any_of HT_.out (by kernel_rfl)) (fun _ _ _ h => h) (Or.inl ⟨by rfl, ?_⟩) ?_ ?_
                          rotate_left
                          · intro w'
                            go_simp
                            with_reducible rfl
                          rotate_left
                          · simp only [Act.put, List.setIfInBounds_toArray, List.set_cons_zero, List.set_cons_succ, i64_w, i32_w]
                            rfl
                          refine pure_ (i := 25) (N := some 49) (v := ?_) (a' := ?_) #[true, true, true, true, true, true, true, true, true, true, true, true, true, true, true, true, true, true, true, true, true, true, true, true, true, true, false, false, false] rfl rfl (any_of HT_.out (by kernel_rfl)) (fun _ _ _ h => h) (Or.inl ⟨by rfl, ?_⟩) ?_ ?_
                          rotate_left
                          · intro w'
                            go_simp
                            with_reducible rfl
                          rotate_left
                          · simp only [Act.put, List.setIfInBounds_toArray, List.set_cons_zero, List.set_cons_succ, i64_w, i32_w]
                            rfl
                          refine one_ (i := 26) (N := some 50) #[true, true, true, true, true, true, true, true, true, true, true, true, true, true, true, true, true, true, true, true, true, true, true, true, true, true, true, false, false] rfl rfl (one_of HT_.out (by kernel_rfl)) (by decide) (fun K hK => ?_)
                          refine goes_ Tryd.func6 (by kernel_rfl) rfl #[] (by rfl) rfl rfl (by (try simp only [List.map_toArray, List.map_cons, List.map_nil]); first | done | rfl | (simp only [List.length_drop, List.length_take]; rfl)) ?_
                          with_reducible refine (laws_intervalsLive.calls kj1  t204 _ A38.out ?side99).mono ?_
                          (case side99 => exact HT.out _ (by repeat (first | (with_reducible first | exact HB.out | apply below_alloc | apply pw_below_drewN | apply below_drew1 | refine below_set ?_ GE191.out | refine below_set ?_ GE192.out) | exact HB.out)))
                          rintro e w47 ⟨rfl, hb⟩
                          refine ⟨_, rfl, ?_⟩
                          have n0_ := Aside0.mk (Kd.R_below (by (with_reducible repeat (first | apply Kd.R_alloc | apply Kd.R_drewN | apply Kd.R_drew)); exact HO198.out) hb)
                          have n1_ := Aside0.mk (Kd.R_below (by (with_reducible repeat (first | apply Kd.R_alloc | apply Kd.R_drewN | apply Kd.R_drew)); exact HO202.out) hb)
                          have n2_ := Aside0.mk (blk_below (g := gb191) (o := .cells #[.bool false, .int .i64 a0_1, .int .i64 a0_2, .int .i64 a0_3, .int .i64 a0_4, .int .i64 a0_5, .int .i64 a0_6, .int .i64 a0_7] 23 (0, 0)) (by (with_reducible repeat (first | refine blk_drewN ?_ _ | refine blk_drew ?_ | refine blk_alloc ?_ _)); exact BK191.out) hb)
                          have n3_ := Aside0.mk (blk_below (g := gb192) (o := .cells #[.bool true, .int .i64 a0_1, .int .i64 a0_2, .int .i64 a0_3, .int .i64 a0_4, .int .i64 a0_5, .int .i64 a0_6, .int .i64 a0_7] 23 (0, 0)) (by (with_reducible repeat (first | refine blk_drewN ?_ _ | refine blk_drew ?_ | refine blk_alloc ?_ _)); exact BK192.out) hb)
                          have n4_ := Aside0.mk (below_step (by repeat (first | (with_reducible first | exact HB.out | apply below_alloc | apply pw_below_drewN | apply below_drew1 | refine below_set ?_ GE191.out | refine below_set ?_ GE192.out) | exact HB.out)) hb)
                          clear HO198
                          clear HO202
                          clear BK191
                          clear BK192
                          clear HB
                          have HO198 := n0_
                          have HO202 := n1_
                          have BK191 := n2_
                          have BK192 := n3_
                          have HB := n4_
                          clear n0_ n1_ n2_ n3_ n4_
                          (try clear hb)
                          (try clear hb2)
                          (try clear hk)
                          (try clear hi)
                          refine hK.out _ _ trivial (fun hHeld => ?_)
                          clear hK K
                          refine norm_ (a' := ?_) ?_ ?_
                          rotate_left
                          · show Act.put _ (some 50) _ = _
                            simp only [Act.put, List.setIfInBounds_toArray, List.set_cons_zero, List.set_cons_succ, i64_w, i32_w]
                            rfl
                          refine pure_ (i := 27) (N := some 51) (v := ?_) (a' := ?_) #[true, true, true, true, true, true, true, true, true, true, true, true, true, true, true, true, true, true, true, true, true, true, true, true, true, true, true, true, false] rfl rfl (any_of HT_.out (by kernel_rfl)) (fun _ _ _ h => h) (Or.inl ⟨by rfl, ?_⟩) ?_ ?_
                          rotate_left
                          · intro w'
                            go_simp
                            with_reducible rfl
                          rotate_left
                          · simp only [Act.put, List.setIfInBounds_toArray, List.set_cons_zero, List.set_cons_succ, i64_w, i32_w]
                            rfl
                          refine pure_ (i := 28) (N := some 2) (v := ?_) (a' := ?_) #[true, true, true, true, true, true, true, true, true, true, true, true, true, true, true, true, true, true, true, true, true, true, true, true, true, true, true, true, true] rfl rfl (any_of HT_.out (by kernel_rfl)) (fun _ _ _ h => h) (Or.inl ⟨by rfl, ?_⟩) ?_ ?_
                          rotate_left
                          · intro w'
                            go_simp
                            with_reducible rfl
                          rotate_left
                          · simp only [Act.put, List.setIfInBounds_toArray, List.set_cons_zero, List.set_cons_succ, i64_w, i32_w]
                            rfl
                          refine done_ (done_of HT_.out (by kernel_rfl)) ?_
                          try go_wp2
                          go_ret
                          exact ⟨by first | rfl | (simp [errW_none, errW_some] <;> rfl) | (simp [*, errW_none, errW_some] <;> rfl), by repeat (first | (with_reducible first | exact HB.out | apply below_alloc | apply pw_below_drewN | apply below_drew1 | refine below_set ?_ GE191.out | refine below_set ?_ GE192.out) | exact HB.out)⟩
                        · rw [if_neg c37] at H
                          exact absurd H (by simp)
                      · rw [if_neg c36] at H
                        exact absurd H (by simp)
                    · rw [if_neg c35] at H
                      exact absurd H (by simp)
                  · rw [if_neg c34] at H
                    exact absurd H (by simp)
                · rw [if_neg c32] at H
                  exact absurd H (by simp)
              · rw [if_neg c31] at H
                exact absurd H (by simp)
            · rw [if_neg c29] at H
              exact absurd H (by simp)
          · rw [if_neg c28] at H
            exact absurd H (by simp)
        · rw [if_neg c27] at H
          exact absurd H (by simp)
end Go.Proofs.YtinggdcfhlbahaaDoor.ZP
