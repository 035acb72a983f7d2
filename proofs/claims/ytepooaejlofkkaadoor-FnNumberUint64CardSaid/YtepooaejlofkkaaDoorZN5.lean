-- Written by a program of this session (wip/xprint.py), which calls the kit's print.
import Derived.Test.YtepooaejlofkkaaDoorZN0
import Derived.Test.YtepooaejlofkkaaDoorNum
namespace Go.Proofs.YtepooaejlofkkaaDoor.ZN
open Go.RowKit Go.Proofs.YtepooaejlofkkaaDoor.X Go.Proofs.YtepooaejlofkkaaDoorW.PrintWords Go.Proofs.YtepooaejlofkkaaDoorW.PrintLast Go.Proofs.YtepooaejlofkkaaDoorW.PrintMore
attribute [local go_sem] max2_int min2_int max_two min_two max_three min_three max_four min_four   -- for this text's walks alone
set_option linter.unusedVariables false
set_option linter.unusedSimpArgs false

/-! ### spec_NumberBytes: function 17 -/
mutual
def spec_NumberBytes.j0 : Nat → Bool → List Int → List Int → Int → Option (List Int)
  | 0, _, _, _, _ => none
  | k + 1, x1, x7, x8, x9 => if ((x8.length : Int) % 2) = 1 then (if x8.length < 140737488355328 then (spec_NumberBytes.j1 k x1 x7 (x8 ++ [0]) x9) else (none)) else (spec_NumberBytes.j1 k x1 x7 x8 x9)
def spec_NumberBytes.j1 : Nat → Bool → List Int → List Int → Int → Option (List Int)
  | 0, _, _, _, _ => none
  | k + 1, x1, x7, x8, x9 => spec_NumberBytes.l0 k x1 x7 x8 x9 0
def spec_NumberBytes.l0 : Nat → Bool → List Int → List Int → Int → Int → Option (List Int)
  | 0, _, _, _, _, _ => none
  | k + 1, x1, x7, x8, x9, x10 => if x10 < (x8.length : Int) then (if 0 ≤ x10 then (if 0 ≤ (wrap64 (x10 + 1)) then (if (wrap64 (x10 + 1)) < (x8.length : Int) then (if x7.length < 140737488355328 then (spec_NumberBytes.l0 k x1 (x7 ++ [(((10 * (rd x8 x10)) % 256) + (rd x8 (wrap64 (x10 + 1)))) % 256]) x8 x9 (wrap64 (x10 + 2))) else (none)) else (none)) else (none)) else (none)) else (if x1 = true then (spec_NumberBytes.l2 k x7 (([(wrap64 (62 - (wrap64 (Int.tdiv x9 2)))) % 256] : List Int)) x7 (x7.length : Int) 0) else (spec_NumberBytes.l1 k (([(wrap64 (193 + (wrap64 (Int.tdiv x9 2)))) % 256] : List Int)) x7 (x7.length : Int) 0))
def spec_NumberBytes.l2 : Nat → List Int → List Int → List Int → Int → Int → Option (List Int)
  | 0, _, _, _, _, _ => none
  | k + 1, x7, x15, x87, x88, x89 => if x89 < x88 then (if 0 ≤ x89 then (if x89 < (x87.length : Int) then (if x15.length < 140737488355328 then (spec_NumberBytes.l2 k x7 (x15 ++ [(101 - (rd x87 x89)) % 256]) x87 x88 (wrap64 (x89 + 1))) else (none)) else (none)) else (none)) else (if (x7.length : Int) < 20 then (if x15.length < 140737488355328 then (some (x15 ++ [102])) else (none)) else (some x15))
def spec_NumberBytes.l1 : Nat → List Int → List Int → Int → Int → Option (List Int)
  | 0, _, _, _, _ => none
  | k + 1, x12, x70, x71, x72 => if x72 < x71 then (if 0 ≤ x72 then (if x72 < (x70.length : Int) then (if x12.length < 140737488355328 then (spec_NumberBytes.l1 k (x12 ++ [((rd x70 x72) + 1) % 256]) x70 x71 (wrap64 (x72 + 1))) else (none)) else (none)) else (none)) else (some x12)
end
def spec_NumberBytes.f (k : Nat) (l0 : List Int) (a1 : Bool) (a2 : Int) : Option (List Int) := if (l0.length : Int) = 0 then (some (([128] : List Int))) else ((some (([] : List Int) : List Int)).bind fun y181 => ((some (([] : List Int) : List Int)).bind fun y184 => (if y184.length + l0.length < 140737488355328 then ((some (y184 ++ l0 : List Int)).bind fun y187 => (if (Int.tmod a2 2) = 0 then ((some (([0] : List Int) : List Int)).bind fun y190 => (if y190.length + y187.length < 140737488355328 then (spec_NumberBytes.j0 k a1 y181 (y190 ++ y187) a2) else (none))) else (spec_NumberBytes.j0 k a1 y181 y187 (wrap64 (a2 - 1))))) else (none))))
theorem spec_NumberBytes.mono_l : ∀ k, (∀ y0 y1 y2 y3, LeO (spec_NumberBytes.j0 k y0 y1 y2 y3) (spec_NumberBytes.j0 (k + 1) y0 y1 y2 y3)) ∧ (∀ y0 y1 y2 y3, LeO (spec_NumberBytes.j1 k y0 y1 y2 y3) (spec_NumberBytes.j1 (k + 1) y0 y1 y2 y3)) ∧ (∀ y0 y1 y2 y3 y4, LeO (spec_NumberBytes.l0 k y0 y1 y2 y3 y4) (spec_NumberBytes.l0 (k + 1) y0 y1 y2 y3 y4)) ∧ (∀ y0 y1 y2 y3 y4, LeO (spec_NumberBytes.l2 k y0 y1 y2 y3 y4) (spec_NumberBytes.l2 (k + 1) y0 y1 y2 y3 y4)) ∧ (∀ y0 y1 y2 y3, LeO (spec_NumberBytes.l1 k y0 y1 y2 y3) (spec_NumberBytes.l1 (k + 1) y0 y1 y2 y3))
  | 0 => ⟨fun _ _ _ _ r h => by simp [spec_NumberBytes.j0] at h, fun _ _ _ _ r h => by simp [spec_NumberBytes.j1] at h, fun _ _ _ _ _ r h => by simp [spec_NumberBytes.l0] at h, fun _ _ _ _ _ r h => by simp [spec_NumberBytes.l2] at h, fun _ _ _ _ r h => by simp [spec_NumberBytes.l1] at h⟩
  | k + 1 => by
    obtain ⟨ih0, ih1, ih2, ih3, ih4⟩ := spec_NumberBytes.mono_l k
    refine ⟨?_, ?_, ?_, ?_, ?_⟩
    · intro y0 y1 y2 y3
      unfold spec_NumberBytes.j0
      repeat' first
      | (with_reducible exact ih0 _ _ _ _)
      | (with_reducible exact ih1 _ _ _ _)
      | (with_reducible exact ih2 _ _ _ _ _)
      | (with_reducible exact ih3 _ _ _ _ _)
      | (with_reducible exact ih4 _ _ _ _)
      | (with_reducible exact LeO.refl _)
      | (with_reducible exact LeO.none _)
      | (with_reducible refine LeO.ite ?_ ?_)
      | (with_reducible refine LeO.bind ?_ (fun _ => ?_))
      | exact ih0 _ _ _ _
      | exact ih1 _ _ _ _
      | exact ih2 _ _ _ _ _
      | exact ih3 _ _ _ _ _
      | exact ih4 _ _ _ _
      | exact LeO.none _
      | refine LeO.ite ?_ ?_
      | refine LeO.bind ?_ (fun _ => ?_)
    · intro y0 y1 y2 y3
      unfold spec_NumberBytes.j1
      repeat' first
      | (with_reducible exact ih0 _ _ _ _)
      | (with_reducible exact ih1 _ _ _ _)
      | (with_reducible exact ih2 _ _ _ _ _)
      | (with_reducible exact ih3 _ _ _ _ _)
      | (with_reducible exact ih4 _ _ _ _)
      | (with_reducible exact LeO.refl _)
      | (with_reducible exact LeO.none _)
      | (with_reducible refine LeO.ite ?_ ?_)
      | (with_reducible refine LeO.bind ?_ (fun _ => ?_))
      | exact ih0 _ _ _ _
      | exact ih1 _ _ _ _
      | exact ih2 _ _ _ _ _
      | exact ih3 _ _ _ _ _
      | exact ih4 _ _ _ _
      | exact LeO.none _
      | refine LeO.ite ?_ ?_
      | refine LeO.bind ?_ (fun _ => ?_)
    · intro y0 y1 y2 y3 y4
      unfold spec_NumberBytes.l0
      repeat' first
      | (with_reducible exact ih0 _ _ _ _)
      | (with_reducible exact ih1 _ _ _ _)
      | (with_reducible exact ih2 _ _ _ _ _)
      | (with_reducible exact ih3 _ _ _ _ _)
      | (with_reducible exact ih4 _ _ _ _)
      | (with_reducible exact LeO.refl _)
      | (with_reducible exact LeO.none _)
      | (with_reducible refine LeO.ite ?_ ?_)
      | (with_reducible refine LeO.bind ?_ (fun _ => ?_))
      | exact ih0 _ _ _ _
      | exact ih1 _ _ _ _
      | exact ih2 _ _ _ _ _
      | exact ih3 _ _ _ _ _
      | exact ih4 _ _ _ _
      | exact LeO.none _
      | refine LeO.ite ?_ ?_
      | refine LeO.bind ?_ (fun _ => ?_)
    · intro y0 y1 y2 y3 y4
      unfold spec_NumberBytes.l2
      repeat' first
      | (with_reducible exact ih0 _ _ _ _)
      | (with_reducible exact ih1 _ _ _ _)
      | (with_reducible exact ih2 _ _ _ _ _)
      | (with_reducible exact ih3 _ _ _ _ _)
      | (with_reducible exact ih4 _ _ _ _)
      | (with_reducible exact LeO.refl _)
      | (with_reducible exact LeO.none _)
      | (with_reducible refine LeO.ite ?_ ?_)
      | (with_reducible refine LeO.bind ?_ (fun _ => ?_))
      | exact ih0 _ _ _ _
      | exact ih1 _ _ _ _
      | exact ih2 _ _ _ _ _
      | exact ih3 _ _ _ _ _
      | exact ih4 _ _ _ _
      | exact LeO.none _
      | refine LeO.ite ?_ ?_
      | refine LeO.bind ?_ (fun _ => ?_)
    · intro y0 y1 y2 y3
      unfold spec_NumberBytes.l1
      repeat' first
      | (with_reducible exact ih0 _ _ _ _)
      | (with_reducible exact ih1 _ _ _ _)
      | (with_reducible exact ih2 _ _ _ _ _)
      | (with_reducible exact ih3 _ _ _ _ _)
      | (with_reducible exact ih4 _ _ _ _)
      | (with_reducible exact LeO.refl _)
      | (with_reducible exact LeO.none _)
      | (with_reducible refine LeO.ite ?_ ?_)
      | (with_reducible refine LeO.bind ?_ (fun _ => ?_))
      | exact ih0 _ _ _ _
      | exact ih1 _ _ _ _
      | exact ih2 _ _ _ _ _
      | exact ih3 _ _ _ _ _
      | exact ih4 _ _ _ _
      | exact LeO.none _
      | refine LeO.ite ?_ ?_
      | refine LeO.bind ?_ (fun _ => ?_)
theorem spec_NumberBytes.mono : ∀ a0 a1 a2 k, LeO (spec_NumberBytes.f k a0 a1 a2) (spec_NumberBytes.f (k + 1) a0 a1 a2) := by
  intro a0 a1 a2 k
  obtain ⟨ih0, ih1, ih2, ih3, ih4⟩ := spec_NumberBytes.mono_l k
  unfold spec_NumberBytes.f
  repeat' first
      | (with_reducible exact ih0 _ _ _ _)
      | (with_reducible exact ih1 _ _ _ _)
      | (with_reducible exact ih2 _ _ _ _ _)
      | (with_reducible exact ih3 _ _ _ _ _)
      | (with_reducible exact ih4 _ _ _ _)
      | (with_reducible exact LeO.refl _)
      | (with_reducible exact LeO.none _)
      | (with_reducible refine LeO.ite ?_ ?_)
      | (with_reducible refine LeO.bind ?_ (fun _ => ?_))
      | exact ih0 _ _ _ _
      | exact ih1 _ _ _ _
      | exact ih2 _ _ _ _ _
      | exact ih3 _ _ _ _ _
      | exact ih4 _ _ _ _
      | exact LeO.none _
      | refine LeO.ite ?_ ?_
      | refine LeO.bind ?_ (fun _ => ?_)
def spec_NumberBytes.T14 : Bool × List (List Nat × List Nat) := (true, [([], []), ([], []), ([], []), ([1, 2], [1, 2]), ([3], [3]), ([4], [4]), ([], []), ([], []), ([7], [7]), ([6, 8], [6, 8]), ([9], [9]), ([5, 10], [5, 10]), ([11], [11]), ([0, 12], [0, 12]), ([13, 13, 0, 1, 2, 3, 4, 5, 6, 7, 8, 9, 10, 11, 12, 13], [0, 13])])
def spec_NumberBytes.B14 : List Nat := [0, 0, 0, 6, 14, 30, 0, 0, 128, 448, 960, 2046, 4094, 8191, 16383]
theorem spec_NumberBytes.tab14 : rtab .any (opsOf Tryd.f17 14) = spec_NumberBytes.T14 := by kernel_rfl
theorem spec_NumberBytes.bits14 : waitsOk spec_NumberBytes.T14.2 spec_NumberBytes.B14 = true := by kernel_rfl
set_option maxHeartbeats 8000000 in
set_option maxRecDepth 100000 in
theorem spec_NumberBytes.calls (k : Nat) (A0 : Option Addr) (c0 : Nat) (l0 : List Int) (a1 : Bool) (a2 : Int) (r : List Int) (w : World) (hr0 : Kd.C (Kd.int .u8) w A0 l0.length l0) (hc0 : l0.length ≤ c0) (h : spec_NumberBytes.f k l0 a1 a2 = some r) :
    Calls Tryd.prog 17 #[.slice A0 l0.length c0, .bool a1, .int .i64 a2] w fun e w' => ∃ v0_ : Value, e = .returned (v0_) ∧ Kd.R (Kd.int .u8) 5 w' w.heap.size (fun _ => True) v0_ r ∧ Below w.heap.size w w' := by
  have HR0 := Aside0.mk hr0
  have HC0 := Aside0.mk hc0
  clear hr0 hc0
  have HB := Aside0.mk (Below.refl w.heap.size w)
  have H : (if (l0.length : Int) = 0 then (some (([128] : List Int))) else ((some (([] : List Int) : List Int)).bind fun y181 => ((some (([] : List Int) : List Int)).bind fun y184 => (if y184.length + l0.length < 140737488355328 then ((some (y184 ++ l0 : List Int)).bind fun y187 => (if (Int.tmod a2 2) = 0 then ((some (([0] : List Int) : List Int)).bind fun y190 => (if y190.length + y187.length < 140737488355328 then (spec_NumberBytes.j0 k a1 y181 (y190 ++ y187) a2) else (none))) else (spec_NumberBytes.j0 k a1 y181 y187 (wrap64 (a2 - 1))))) else (none))))) = some r := h
  clear h
  by_cases c4 : (l0.length : Int) = 0
  · rw [if_pos c4] at H
    have c4b0 : ((l0.length : Int) == 0) = true := beq_iff_eq.mpr c4
    have c4b1 : ((l0.length : Int) != 0) = false := bne_eq_false_iff_eq.mpr c4
    clear c4
    obtain ⟨y178, hy178⟩ : ∃ y_ : List Int, y_ = (([128] : List Int)) := ⟨_, rfl⟩
    replace H : (some y178) = some r := by first | (rw [hy178]; with_reducible exact H) | (have H2_ := (Option.bind_some _ _).symm.trans H; rw [hy178]; with_reducible exact H2_) | (have H2_ := (Option.bind_some _ _).symm.trans H; with_reducible exact H2_) | with_reducible exact H | (rw [hy178]; exact H) | exact H
    have Ny178 := Aside0.mk hy178
    clear hy178
    obtain rfl := Option.some.inj H
    go_enter Tryd.func17, Tryd.ntmps17
    go_wp2_with (first | ((with_reducible refine gate_dst (N := 21) rfl ?_); refine Kd.R_lit (Kd.int .u8) _ 5 ?hg (N := 21) ?hd (xs := ([128] : List Int)) (inner := [.int .u8 128]) (ok := fun _ => True) (okp := fun _ => True) ?hr ?hp (fun _ hk => hk) trivial (Below.refl _ _) (Nat.le_refl _) (by simp) ?_; (case hd => rfl); (case hg => rfl); (case hr => first | (go_simp; done) | (go_simp; rfl)); (case hp => exact (Reps.one (show Kd.M (Kd.int .u8) _ _ _ 128 [.int .u8 128] from rfl) (Reps.none _ _))); intro v179 w5 ho6 hb hg_ hnew_; clear hg_ hnew_; (first | rw [← Ny178.out] at ho6 | (simp only [Int.reduceToNat] at ho6; rw [← Ny178.out] at ho6)); have n0_ := Aside0.mk (Kd.R_lower ho6 (below_size (by repeat (first | (with_reducible first | exact HB.out | apply below_alloc | apply pw_below_drewN | apply below_drew1) | exact HB.out)))); have n1_ := Aside0.mk (below_step (by repeat (first | (with_reducible first | exact HB.out | apply below_alloc | apply pw_below_drewN | apply below_drew1) | exact HB.out)) hb); clear HB; have HO180 := n0_; have HB := n1_; clear n0_ n1_; clear hb ho6))
    go_ret
    exact ⟨_, by first | rfl | (simp [errW_none, errW_some] <;> rfl) | (simp [*, errW_none, errW_some] <;> rfl), by (with_reducible repeat (first | apply Kd.R_alloc | apply Kd.R_drewN | apply Kd.R_drew)); exact HO180.out, by repeat (first | (with_reducible first | exact HB.out | apply below_alloc | apply pw_below_drewN | apply below_drew1) | exact HB.out)⟩
  · rw [if_neg c4] at H
    have c4b0 : ((l0.length : Int) == 0) = false := beq_eq_false_iff_ne.mpr c4
    have c4b1 : ((l0.length : Int) != 0) = true := bne_iff_ne.mpr c4
    have c4b2 : ¬ (l0 = []) := fun h_ => c4 (by rw [h_]; rfl)
    obtain ⟨y181, hy181⟩ : ∃ y_ : List Int, y_ = (([] : List Int)) := ⟨_, rfl⟩
    replace H : ((some (([] : List Int) : List Int)).bind fun y184 => (if y184.length + l0.length < 140737488355328 then ((some (y184 ++ l0 : List Int)).bind fun y187 => (if (Int.tmod a2 2) = 0 then ((some (([0] : List Int) : List Int)).bind fun y190 => (if y190.length + y187.length < 140737488355328 then (spec_NumberBytes.j0 k a1 y181 (y190 ++ y187) a2) else (none))) else (spec_NumberBytes.j0 k a1 y181 y187 (wrap64 (a2 - 1))))) else (none))) = some r := by first | (rw [hy181]; with_reducible exact H) | (have H2_ := (Option.bind_some _ _).symm.trans H; rw [hy181]; with_reducible exact H2_) | (have H2_ := (Option.bind_some _ _).symm.trans H; with_reducible exact H2_) | with_reducible exact H | (rw [hy181]; exact H) | exact H
    have Ny181 := Aside0.mk hy181
    clear hy181
    obtain ⟨y184, hy184⟩ : ∃ y_ : List Int, y_ = (([] : List Int)) := ⟨_, rfl⟩
    replace H : (if y184.length + l0.length < 140737488355328 then ((some (y184 ++ l0 : List Int)).bind fun y187 => (if (Int.tmod a2 2) = 0 then ((some (([0] : List Int) : List Int)).bind fun y190 => (if y190.length + y187.length < 140737488355328 then (spec_NumberBytes.j0 k a1 y181 (y190 ++ y187) a2) else (none))) else (spec_NumberBytes.j0 k a1 y181 y187 (wrap64 (a2 - 1))))) else (none)) = some r := by first | (rw [hy184]; with_reducible exact H) | (have H2_ := (Option.bind_some _ _).symm.trans H; rw [hy184]; with_reducible exact H2_) | (have H2_ := (Option.bind_some _ _).symm.trans H; with_reducible exact H2_) | with_reducible exact H | (rw [hy184]; exact H) | exact H
    have Ny184 := Aside0.mk hy184
    clear hy184
    by_cases c7 : y184.length + l0.length < 140737488355328
    · rw [if_pos c7] at H
      have LMc7 := Aside0.mk c7
      clear c7
      obtain ⟨y187, hy187⟩ : ∃ y_ : List Int, y_ = (y184 ++ l0) := ⟨_, rfl⟩
      replace H : (if (Int.tmod a2 2) = 0 then ((some (([0] : List Int) : List Int)).bind fun y190 => (if y190.length + y187.length < 140737488355328 then (spec_NumberBytes.j0 k a1 y181 (y190 ++ y187) a2) else (none))) else (spec_NumberBytes.j0 k a1 y181 y187 (wrap64 (a2 - 1)))) = some r := by first | (rw [hy187]; with_reducible exact H) | (have H2_ := (Option.bind_some _ _).symm.trans H; rw [hy187]; with_reducible exact H2_) | (have H2_ := (Option.bind_some _ _).symm.trans H; with_reducible exact H2_) | with_reducible exact H | (rw [hy187]; exact H) | exact H
      have Ny187 := Aside0.mk hy187
      clear hy187
      have HC8 := Aside0.mk H
      clear H
      go_enter Tryd.func17, Tryd.ntmps17
      go_upto_if 29 with (first | ((with_reducible refine gate_dst (N := 22) rfl ?_); refine Kd.R_lit (Kd.int .u8) _ 5 ?hg (N := 22) ?hd (xs := ([] : List Int)) (inner := []) (ok := fun _ => True) (okp := fun _ => True) ?hr ?hp (fun _ hk => hk) trivial (Below.refl _ _) (Nat.le_refl _) (by simp) ?_; (case hd => rfl); (case hg => rfl); (case hr => first | (go_simp; done) | (go_simp; rfl)); (case hp => exact (Reps.none _ _)); intro v182 w9 ho10 hb hg_ hnew_; clear hg_ hnew_; (first | rw [← Ny181.out] at ho10 | (simp only [Int.reduceToNat] at ho10; rw [← Ny181.out] at ho10)); have n0_ := Aside0.mk (Kd.R_lower ho10 (below_size (by repeat (first | (with_reducible first | exact HB.out | apply below_alloc | apply pw_below_drewN | apply below_drew1) | exact HB.out)))); have n1_ := Aside0.mk (below_step (by repeat (first | (with_reducible first | exact HB.out | apply below_alloc | apply pw_below_drewN | apply below_drew1) | exact HB.out)) hb); clear HB; have HO183 := n0_; have HB := n1_; clear n0_ n1_; clear hb ho10) | ((with_reducible refine gate_dst (N := 23) rfl ?_); refine Kd.R_lit (Kd.int .u8) _ 5 ?hg (N := 23) ?hd (xs := ([] : List Int)) (inner := []) (ok := fun _ => True) (okp := fun _ => True) ?hr ?hp (fun _ hk => hk) trivial (Below.refl _ _) (Nat.le_refl _) (by simp) ?_; (case hd => rfl); (case hg => rfl); (case hr => first | (go_simp; done) | (go_simp; rfl)); (case hp => exact (Reps.none _ _)); intro v185 w11 ho12 hb hg_ hnew_; clear hg_ hnew_; (first | rw [← Ny184.out] at ho12 | (simp only [Int.reduceToNat] at ho12; rw [← Ny184.out] at ho12)); have n0_ := Aside0.mk (Kd.R_elder' (by (with_reducible repeat (first | apply Kd.R_alloc | apply Kd.R_drewN | apply Kd.R_drew)); exact HO183.out) (Kd.R_base ho12) hb); have n1_ := Aside0.mk (Kd.R_lower (Kd.R_new' ho12 (Kd.R_lt (by (with_reducible repeat (first | apply Kd.R_alloc | apply Kd.R_drewN | apply Kd.R_drew)); exact HO183.out))) (below_size (by repeat (first | (with_reducible first | exact HB.out | apply below_alloc | apply pw_below_drewN | apply below_drew1) | exact HB.out)))); have n2_ := Aside0.mk (below_step (by repeat (first | (with_reducible first | exact HB.out | apply below_alloc | apply pw_below_drewN | apply below_drew1) | exact HB.out)) hb); clear HO183; clear HB; have HO183 := n0_; have HO186 := n1_; have HB := n2_; clear n0_ n1_ n2_; clear hb ho12) | ((with_reducible refine gate_builtin (b := .append) (xs := #[.tmp 23, .tmp 24]) rfl ?_); at_builtin; refine Kd.R_append_rows (Kd.int .u8) (w0 := w) w.heap.size rfl (.tmp 23) (.tmp 24) 22 5 (.int .u8 0) 1 rfl Tryd.underlying22 info5 rfl (by decide) (by omega) v185 y184 l0 _ _ _ (fun k_ => some k_ ≠ (v182 : Value).ownBlock) (fun _ => False) rfl rfl ?aO ?aR (fun _ _ h => h) (fun _ h => h.elim) ?aF ?aB ?aS ?aL ?_; (case aR => repeat (first | exact (Kd.C_below HR0.out HB.out) | (with_reducible refine Kd.C_alloc ?_ _) | (with_reducible refine Kd.C_drewN ?_ _) | (with_reducible refine Kd.C_drew ?_))); (case aB => exact (by repeat (first | (with_reducible first | exact HB.out | apply below_alloc | apply pw_below_drewN | apply below_drew1) | exact HB.out))); (case aF => exact (fun k_ hk => Kd.fresh' (Kd.R_lt (by (with_reducible repeat (first | apply Kd.R_alloc | apply Kd.R_drewN | apply Kd.R_drew)); exact HO183.out)) k_ hk)); (case aO => exact (by (with_reducible repeat (first | apply Kd.R_alloc | apply Kd.R_drewN | apply Kd.R_drew)); exact Kd.R_mono HO186.out (fun _ hk => hk.2))); (case aS => exact (below_size (by repeat (first | (with_reducible first | exact HB.out | apply below_alloc | apply pw_below_drewN | apply below_drew1) | exact HB.out)))); (case aL => have := LMc7.out; omega); intro v188 w13 ho hb hg hat; rw [← Ny187.out] at ho; have n0_ := Aside0.mk (Kd.R_after (ok := (fun _ => True)) (by (with_reducible repeat (first | apply Kd.R_alloc | apply Kd.R_drewN | apply Kd.R_drew)); exact HO183.out) hg hat); have n1_ := Aside0.mk (hb); have n2_ := Aside0.mk (ho); clear HO183; clear HB; clear HO186; have HO183 := n0_; have HB := n1_; have HO189 := n2_; clear n0_ n1_ n2_; clear ho hb hg hat))
      (try simp only [Act.put, List.setIfInBounds_toArray, List.set_cons_zero, List.set_cons_succ])
      go_cut [8, 9] (fun v8 v9 wc => ∃ (kq : Nat) (x8_7 : List Int) (x9_7 : Int), v9 = .int .i64 x9_7 ∧ Aside0 (spec_NumberBytes.j0 kq a1 y181 x8_7 x9_7 = some r) ∧ Aside0 (kq ≤ k) ∧ Aside0 (Kd.R (Kd.int .u8) 5 wc w.heap.size (fun k_ => some k_ ≠ (v8 : Value).ownBlock) v182 y181) ∧ Aside0 (Kd.R (Kd.int .u8) 5 wc w.heap.size (fun k_ => some k_ ≠ (v182 : Value).ownBlock) v8 x8_7) ∧ Aside0 (Below w.heap.size w wc))
      case first =>
        have H := HC8.out
        clear HC8
        by_cases c14 : (Int.tmod a2 2) = 0
        · rw [if_pos c14] at H
          have c14b0 : ((Int.tmod a2 2) == 0) = true := beq_iff_eq.mpr c14
          have c14b1 : ((Int.tmod a2 2) != 0) = false := bne_eq_false_iff_eq.mpr c14
          clear c14
          (first | rw [c14b0] | (simp only [i64_w, i32_w]; rw [c14b0]) | skip)
          obtain ⟨y190, hy190⟩ : ∃ y_ : List Int, y_ = (([0] : List Int)) := ⟨_, rfl⟩
          replace H : (if y190.length + y187.length < 140737488355328 then (spec_NumberBytes.j0 k a1 y181 (y190 ++ y187) a2) else (none)) = some r := by first | (rw [hy190]; with_reducible exact H) | (have H2_ := (Option.bind_some _ _).symm.trans H; rw [hy190]; with_reducible exact H2_) | (have H2_ := (Option.bind_some _ _).symm.trans H; with_reducible exact H2_) | with_reducible exact H | (rw [hy190]; exact H) | exact H
          have Ny190 := Aside0.mk hy190
          clear hy190
          by_cases c15 : y190.length + y187.length < 140737488355328
          · rw [if_pos c15] at H
            have LMc15 := Aside0.mk c15
            clear c15
            obtain ⟨y193, hy193⟩ : ∃ y_ : List Int, y_ = (y190 ++ y187) := ⟨_, rfl⟩
            replace H : (spec_NumberBytes.j0 k a1 y181 y193 a2) = some r := by first | (rw [hy193]; with_reducible exact H) | (have H2_ := (Option.bind_some _ _).symm.trans H; rw [hy193]; with_reducible exact H2_) | (have H2_ := (Option.bind_some _ _).symm.trans H; with_reducible exact H2_) | with_reducible exact H | (rw [hy193]; exact H) | exact H
            have Ny193 := Aside0.mk hy193
            clear hy193
            have H' := Aside0.mk H
            clear H
            go_wp2_with (first | ((with_reducible refine gate_dst (N := 30) rfl ?_); refine Kd.R_lit (Kd.int .u8) _ 5 ?hg (N := 30) ?hd (xs := ([0] : List Int)) (inner := [.int .u8 0]) (ok := fun _ => True) (okp := fun _ => True) ?hr ?hp (fun _ hk => hk) trivial (Below.refl _ _) (Nat.le_refl _) (by simp) ?_; (case hd => rfl); (case hg => rfl); (case hr => first | (go_simp; done) | (go_simp; rfl)); (case hp => exact (Reps.one (show Kd.M (Kd.int .u8) _ _ _ 0 [.int .u8 0] from rfl) (Reps.none _ _))); intro v191 w16 ho17 hb hg_ hnew_; clear hg_ hnew_; (first | rw [← Ny190.out] at ho17 | (simp only [Int.reduceToNat] at ho17; rw [← Ny190.out] at ho17)); have n0_ := Aside0.mk (Kd.R_elder' (by (with_reducible repeat (first | apply Kd.R_alloc | apply Kd.R_drewN | apply Kd.R_drew)); exact HO183.out) (Kd.R_base ho17) hb); have n1_ := Aside0.mk (Kd.R_elder' (by (with_reducible repeat (first | apply Kd.R_alloc | apply Kd.R_drewN | apply Kd.R_drew)); exact HO189.out) (Kd.R_base ho17) hb); have n2_ := Aside0.mk (Kd.R_lower (Kd.R_new' (Kd.R_new' ho17 (Kd.R_lt (by (with_reducible repeat (first | apply Kd.R_alloc | apply Kd.R_drewN | apply Kd.R_drew)); exact HO183.out))) (Kd.R_lt (by (with_reducible repeat (first | apply Kd.R_alloc | apply Kd.R_drewN | apply Kd.R_drew)); exact HO189.out))) (below_size (by repeat (first | (with_reducible first | exact HB.out | apply below_alloc | apply pw_below_drewN | apply below_drew1) | exact HB.out)))); have n3_ := Aside0.mk (below_step (by repeat (first | (with_reducible first | exact HB.out | apply below_alloc | apply pw_below_drewN | apply below_drew1) | exact HB.out)) hb); clear HO183; clear HO189; clear HB; have HO183 := n0_; have HO189 := n1_; have HO192 := n2_; have HB := n3_; clear n0_ n1_ n2_ n3_; clear hb ho17; obtain ⟨Ao19, co19, eo19⟩ := Kd.R_slice HO189.out; subst eo19) | ((with_reducible refine gate_builtin (b := .append) (xs := #[.tmp 30, .tmp 31]) rfl ?_); at_builtin; refine Kd.R_append_rows (Kd.int .u8) (w0 := w) w.heap.size rfl (.tmp 30) (.tmp 31) 22 5 (.int .u8 0) 1 rfl Tryd.underlying22 info5 rfl (by decide) (by omega) v191 y190 y187 _ _ _ (fun k_ => some k_ ≠ (v182 : Value).ownBlock ∧ some k_ ≠ (.slice Ao19 y187.length co19 : Value).ownBlock) (fun _ => False) rfl rfl ?aO ?aR (fun _ _ h => h) (fun _ h => h.elim) ?aF ?aB ?aS ?aL ?_; (case aR => repeat (first | exact (Kd.R_reads' HO189.out).2.2 | (with_reducible refine Kd.C_alloc ?_ _) | (with_reducible refine Kd.C_drewN ?_ _) | (with_reducible refine Kd.C_drew ?_))); (case aB => exact (by repeat (first | (with_reducible first | exact HB.out | apply below_alloc | apply pw_below_drewN | apply below_drew1) | exact HB.out))); (case aF => exact (fun k_ hk => ⟨Kd.fresh' (Kd.R_lt (by (with_reducible repeat (first | apply Kd.R_alloc | apply Kd.R_drewN | apply Kd.R_drew)); exact HO183.out)) k_ hk, Kd.fresh' (Kd.R_lt (by (with_reducible repeat (first | apply Kd.R_alloc | apply Kd.R_drewN | apply Kd.R_drew)); exact HO189.out)) k_ hk⟩)); (case aO => exact (by (with_reducible repeat (first | apply Kd.R_alloc | apply Kd.R_drewN | apply Kd.R_drew)); exact Kd.R_mono HO192.out (fun _ hk => ⟨hk.1.2, hk.2⟩))); (case aS => exact (below_size (by repeat (first | (with_reducible first | exact HB.out | apply below_alloc | apply pw_below_drewN | apply below_drew1) | exact HB.out)))); (case aL => have := LMc15.out; omega); intro v194 w18 ho hb hg hat; rw [← Ny193.out] at ho; have n0_ := Aside0.mk (Kd.R_after (ok := (fun k_ => some k_ ≠ (.slice Ao19 y187.length co19 : Value).ownBlock)) (by (with_reducible repeat (first | apply Kd.R_alloc | apply Kd.R_drewN | apply Kd.R_drew)); exact Kd.R_mono HO183.out (fun _ hk => ⟨hk.1.2, hk.2⟩)) hg hat); have n1_ := Aside0.mk (Kd.R_after (ok := (fun k_ => some k_ ≠ (v182 : Value).ownBlock)) (by (with_reducible repeat (first | apply Kd.R_alloc | apply Kd.R_drewN | apply Kd.R_drew)); exact HO189.out) hg hat); have n2_ := Aside0.mk (hb); have n3_ := Aside0.mk (ho); clear HO183; clear HO189; clear HB; clear HO192; have HO183 := n0_; have HO189 := n1_; have HB := n2_; have HO195 := n3_; clear n0_ n1_ n2_ n3_; clear ho hb hg hat))
            go_meet
            case rel => exact ⟨_, (y193), (a2), (by first | rfl | (simp; done) | (simp [*]; done)), H', ⟨by first | omega | exact Nat.le_refl _⟩, ⟨by (with_reducible repeat (first | apply Kd.R_alloc | apply Kd.R_drewN | apply Kd.R_drew)); exact Kd.R_mono HO183.out (fun _ hk => hk.2)⟩, ⟨by (with_reducible repeat (first | apply Kd.R_alloc | apply Kd.R_drewN | apply Kd.R_drew)); exact Kd.R_mono HO195.out (fun _ hk => hk.1)⟩, ⟨by repeat (first | (with_reducible first | exact HB.out | apply below_alloc | apply pw_below_drewN | apply below_drew1) | exact HB.out)⟩⟩
          · rw [if_neg c15] at H
            exact absurd H (by simp)
        · rw [if_neg c14] at H
          have c14b0 : ((Int.tmod a2 2) == 0) = false := beq_eq_false_iff_ne.mpr c14
          have c14b1 : ((Int.tmod a2 2) != 0) = true := bne_iff_ne.mpr c14
          (first | rw [c14b0] | (simp only [i64_w, i32_w]; rw [c14b0]) | skip)
          have H' := Aside0.mk H
          clear H
          go_wp2
          go_meet
          case rel => exact ⟨_, (y187), (wrap64 (a2 - 1)), (by first | rfl | (simp; done) | (simp [*]; done)), H', ⟨by first | omega | exact Nat.le_refl _⟩, ⟨by (with_reducible repeat (first | apply Kd.R_alloc | apply Kd.R_drewN | apply Kd.R_drew)); exact Kd.R_mono HO183.out (fun _ hk => hk.2)⟩, ⟨by (with_reducible repeat (first | apply Kd.R_alloc | apply Kd.R_drewN | apply Kd.R_drew)); exact HO189.out⟩, ⟨by repeat (first | (with_reducible first | exact HB.out | apply below_alloc | apply pw_below_drewN | apply below_drew1) | exact HB.out)⟩⟩
      case rest =>
        clear HC8
        try clear c1
        try clear p2
        try clear c4
        try clear c4b0
        try clear c4b1
        try clear c4b2
        try clear p6
        try clear c7
        try clear c14
        try clear c14b0
        try clear c14b1
        try clear c15
        try clear c17
        obtain ⟨kq, x8_7, x9_7, rfl, HA, HJ7, HO_7, HO_8, HB⟩ := hcut
        cases kq with
        | zero => exact absurd HA.out (by simp [spec_NumberBytes.j0])
        | succ kj7 =>
          have H := HA.out
          clear HA
          simp only [spec_NumberBytes.j0] at H
          have HC20 := Aside0.mk H
          clear H
          obtain ⟨Ao21, co21, eo21⟩ := Kd.R_slice HO_8.out
          subst eo21
          go_upto_if 38 with (fail)
          go_cut [8] (fun v8 wc => ∃ (kq : Nat) (x8_19 : List Int), Aside0 (spec_NumberBytes.j1 kq a1 y181 x8_19 x9_7 = some r) ∧ Aside0 (kq ≤ kj7) ∧ Aside0 (Kd.R (Kd.int .u8) 5 wc w.heap.size (fun k_ => some k_ ≠ (v8 : Value).ownBlock) v182 y181) ∧ Aside0 (Kd.R (Kd.int .u8) 5 wc w.heap.size (fun k_ => some k_ ≠ (v182 : Value).ownBlock) v8 x8_19) ∧ Aside0 (Below w.heap.size w wc))
          case first =>
            have H := HC20.out
            clear HC20
            by_cases c22 : ((x8_7.length : Int) % 2) = 1
            · rw [if_pos c22] at H
              have c22b0 : (((x8_7.length : Int) % 2) == 1) = true := beq_iff_eq.mpr c22
              have c22b1 : (((x8_7.length : Int) % 2) != 1) = false := bne_eq_false_iff_eq.mpr c22
              clear c22
              (first | rw [c22b0] | (simp only [i64_w, i32_w]; rw [c22b0]) | skip)
              by_cases c23 : x8_7.length < 140737488355328
              · rw [if_pos c23] at H
                have LMc23 := Aside0.mk c23
                clear c23
                obtain ⟨y196, hy196⟩ : ∃ y_ : List Int, y_ = (x8_7 ++ [0]) := ⟨_, rfl⟩
                replace H : (spec_NumberBytes.j1 kj7 a1 y181 y196 x9_7) = some r := by first | (rw [hy196]; with_reducible exact H) | (have H2_ := (Option.bind_some _ _).symm.trans H; rw [hy196]; with_reducible exact H2_) | (have H2_ := (Option.bind_some _ _).symm.trans H; with_reducible exact H2_) | with_reducible exact H | (rw [hy196]; exact H) | exact H
                have Ny196 := Aside0.mk hy196
                clear hy196
                have H' := Aside0.mk H
                clear H
                go_wp2_with (first | ((with_reducible refine gate_builtin (b := .append) (xs := #[.tmp 39, .tmp 40]) rfl ?_); at_builtin; refine Kd.R_append (Kd.int .u8) (w0 := w) w.heap.size rfl (.tmp 39) (.tmp 40) 22 5 (.int .u8 0) 1 rfl Tryd.underlying22 info5 rfl (by decide) (by omega) (.slice Ao21 x8_7.length co21) x8_7 0 [.int .u8 0] (fun k_ => some k_ ≠ (v182 : Value).ownBlock) (fun _ => False) rfl rfl ?aP (fun _ hk => hk.elim) ?aF ?aO ?aB ?aS ?aL ?_; (case aP => exact rfl); (case aB => exact (by repeat (first | (with_reducible first | exact HB.out | apply below_alloc | apply pw_below_drewN | apply below_drew1) | exact HB.out))); (case aF => exact (fun k_ hk => Kd.fresh' (Kd.R_lt (by (with_reducible repeat (first | apply Kd.R_alloc | apply Kd.R_drewN | apply Kd.R_drew)); exact HO_7.out)) k_ hk)); (case aO => exact (by (with_reducible repeat (first | apply Kd.R_alloc | apply Kd.R_drewN | apply Kd.R_drew)); exact HO_8.out)); (case aS => exact (below_size (by repeat (first | (with_reducible first | exact HB.out | apply below_alloc | apply pw_below_drewN | apply below_drew1) | exact HB.out)))); (case aL => have := LMc23.out; omega); intro v197 w24 ho hb hg hat; rw [← Ny196.out] at ho; have n0_ := Aside0.mk (Kd.R_after (ok := (fun _ => True)) (by (with_reducible repeat (first | apply Kd.R_alloc | apply Kd.R_drewN | apply Kd.R_drew)); exact Kd.R_mono HO_7.out (fun _ hk => ⟨trivial, hk⟩)) hg hat); have n1_ := Aside0.mk (hb); have n2_ := Aside0.mk (ho); clear HO_7; clear HB; clear HO_8; have HO_7 := n0_; have HB := n1_; have HO198 := n2_; clear n0_ n1_ n2_; clear ho hb hg hat))
                go_meet
                case rel => exact ⟨_, (y196), H', ⟨by have := HJ7.out; first | omega | exact Nat.le_refl _⟩, ⟨by (with_reducible repeat (first | apply Kd.R_alloc | apply Kd.R_drewN | apply Kd.R_drew)); exact Kd.R_mono HO_7.out (fun _ hk => hk.2)⟩, ⟨by (with_reducible repeat (first | apply Kd.R_alloc | apply Kd.R_drewN | apply Kd.R_drew)); exact HO198.out⟩, ⟨by repeat (first | (with_reducible first | exact HB.out | apply below_alloc | apply pw_below_drewN | apply below_drew1) | exact HB.out)⟩⟩
              · rw [if_neg c23] at H
                exact absurd H (by simp)
            · rw [if_neg c22] at H
              have c22b0 : (((x8_7.length : Int) % 2) == 1) = false := beq_eq_false_iff_ne.mpr c22
              have c22b1 : (((x8_7.length : Int) % 2) != 1) = true := bne_iff_ne.mpr c22
              (first | rw [c22b0] | (simp only [i64_w, i32_w]; rw [c22b0]) | skip)
              have H' := Aside0.mk H
              clear H
              go_wp2
              go_meet
              case rel => exact ⟨_, (x8_7), H', ⟨by have := HJ7.out; first | omega | exact Nat.le_refl _⟩, ⟨by (with_reducible repeat (first | apply Kd.R_alloc | apply Kd.R_drewN | apply Kd.R_drew)); exact HO_7.out⟩, ⟨by (with_reducible repeat (first | apply Kd.R_alloc | apply Kd.R_drewN | apply Kd.R_drew)); exact HO_8.out⟩, ⟨by repeat (first | (with_reducible first | exact HB.out | apply below_alloc | apply pw_below_drewN | apply below_drew1) | exact HB.out)⟩⟩
          case rest =>
            clear HC20
            try clear c1
            try clear c2
            try clear p2
            try clear c4
            try clear c4b0
            try clear c4b1
            try clear c4b2
            try clear p6
            try clear c7
            try clear c14
            try clear c14b0
            try clear c14b1
            try clear c15
            try clear c17
            try clear c22
            try clear c22b0
            try clear c22b1
            try clear c23
            try clear p2
            try clear p6
            obtain ⟨kq, x8_19, HA, HJ19, HO_7, HO_8, HB⟩ := hcut
            cases kq with
            | zero => exact absurd HA.out (by simp [spec_NumberBytes.j1])
            | succ kj19 =>
              have H := HA.out
              clear HA
              simp only [spec_NumberBytes.j1] at H
              have H' := Aside0.mk H
              clear H
              go_wp2
              go_loopg [7, 10] kj19 (fun kq v7 v10 w' => ∃ (x7_3 : List Int) (x10_3 : Int), v10 = .int .i64 x10_3 ∧ Aside0 (spec_NumberBytes.l0 kq a1 x7_3 x8_19 x9_7 x10_3 = some r) ∧ Aside0 (kq ≤ kj19) ∧ Aside0 (Kd.R (Kd.int .u8) 5 w' w.heap.size (fun k_ => some k_ ≠ (u8 : Value).ownBlock) v7 x7_3) ∧ Aside0 (Kd.R (Kd.int .u8) 5 w' w.heap.size (fun k_ => some k_ ≠ (v7 : Value).ownBlock) u8 x8_19) ∧ Aside0 (Below w.heap.size w w'))
              case atStart => exact ⟨(y181), (0), (by first | rfl | (simp; done) | (simp [*]; done)), H', ⟨Nat.le_refl _⟩, ⟨by (with_reducible repeat (first | apply Kd.R_alloc | apply Kd.R_drewN | apply Kd.R_drew)); exact HO_7.out⟩, ⟨by (with_reducible repeat (first | apply Kd.R_alloc | apply Kd.R_drewN | apply Kd.R_drew)); exact HO_8.out⟩, ⟨by repeat (first | (with_reducible first | exact HB.out | apply below_alloc | apply pw_below_drewN | apply below_drew1) | exact HB.out)⟩⟩
              case round =>
                clear H'
                try clear c1
                try clear c2
                try clear p2
                try clear c4
                try clear c4b0
                try clear c4b1
                try clear c4b2
                try clear p6
                try clear c7
                try clear c14
                try clear c14b0
                try clear c14b1
                try clear c15
                try clear c17
                try clear c22
                try clear c22b0
                try clear c22b1
                try clear c23
                try clear p2
                try clear p6
                obtain ⟨x7_3, x10_3, rfl, HA, HK3, HO_7, HO_8, HB⟩ := hrel
                cases gk with
                | zero => exact absurd HA.out (by simp [spec_NumberBytes.l0])
                | succ k3 =>
                  have H := HA.out
                  clear HA
                  simp only [spec_NumberBytes.l0] at H
                  by_cases c25 : x10_3 < (x8_19.length : Int)
                  · rw [if_pos c25] at H
                    have c25b0 : decide (x10_3 < (x8_19.length : Int)) = true := decide_eq_true c25
                    clear c25
                    by_cases c26 : 0 ≤ x10_3
                    · rw [if_pos c26] at H
                      have c26b0 : decide (0 ≤ x10_3) = true := decide_eq_true c26
                      clear c26
                      obtain ⟨ji27, hji27⟩ : ∃ j_ : Int, (wrap64 (x10_3 + 1)) = j_ := ⟨_, rfl⟩
                      replace H : (if 0 ≤ (ji27) then (if (ji27) < (x8_19.length : Int) then (if x7_3.length < 140737488355328 then (spec_NumberBytes.l0 k3 a1 (x7_3 ++ [(((10 * (rd x8_19 x10_3)) % 256) + (rd x8_19 (ji27))) % 256]) x8_19 x9_7 (wrap64 (x10_3 + 2))) else (none)) else (none)) else (none)) = some r := by first | (rw [hji27] at H; exact H) | (simp only [hji27] at H ⊢; exact H)
                      have hji27w : (IntKind.i64.wrap (x10_3 + 1)) = ji27 := (i64_w _).trans hji27
                      by_cases c28 : 0 ≤ (ji27)
                      · rw [if_pos c28] at H
                        have c28b0 : decide (0 ≤ (ji27)) = true := decide_eq_true c28
                        clear c28
                        by_cases c29 : (ji27) < (x8_19.length : Int)
                        · rw [if_pos c29] at H
                          have c29b0 : decide ((ji27) < (x8_19.length : Int)) = true := decide_eq_true c29
                          clear c29
                          by_cases c30 : x7_3.length < 140737488355328
                          · rw [if_pos c30] at H
                            have LMc30 := Aside0.mk c30
                            clear c30
                            obtain ⟨y201, hy201⟩ : ∃ y_ : List Int, y_ = (x7_3 ++ [(((10 * (rd x8_19 x10_3)) % 256) + (rd x8_19 (ji27))) % 256]) := ⟨_, rfl⟩
                            replace H : (spec_NumberBytes.l0 k3 a1 y201 x8_19 x9_7 (wrap64 (x10_3 + 2))) = some r := by first | (rw [hy201]; with_reducible exact H) | (have H2_ := (Option.bind_some _ _).symm.trans H; rw [hy201]; with_reducible exact H2_) | (have H2_ := (Option.bind_some _ _).symm.trans H; with_reducible exact H2_) | with_reducible exact H | (rw [hy201]; exact H) | exact H
                            have Ny201 := Aside0.mk hy201
                            clear hy201
                            have H' := Aside0.mk H
                            clear H
                            obtain ⟨Ao31, co31, eo31⟩ := Kd.R_slice HO_8.out
                            subst eo31
                            try go_wp2
                            have n0_ := Aside0.mk (Kd.R_drew HO_7.out)
                            have n1_ := Aside0.mk (Kd.R_drew HO_8.out)
                            have n2_ := Aside0.mk (below_drew1 HB.out)
                            clear HO_7
                            clear HO_8
                            clear HB
                            have HO_7 := n0_
                            have HO_8 := n1_
                            have HB := n2_
                            clear n0_ n1_ n2_
                            have p199 : 0 ≤ (x10_3 : Int) := of_decide_eq_true (by first | (with_reducible assumption) | assumption)
                            have q199 : x10_3 < (x8_19.length : Int) := of_decide_eq_true (by first | (with_reducible assumption) | assumption)
                            obtain ⟨ad199, e199, hx199_0⟩ := Kd.at_int (Kd.R_reads' HO_8.out).2.2 x10_3 p199 q199
                            cases e199
                            replace p199 := eq_true p199
                            replace q199 := eq_true q199
                            have p200 : 0 ≤ ((ji27) : Int) := of_decide_eq_true (by first | (with_reducible assumption) | assumption)
                            have q200 : (ji27) < (x8_19.length : Int) := of_decide_eq_true (by first | (with_reducible assumption) | assumption)
                            obtain ⟨ad200, e200, hx200_0⟩ := Kd.at_int (Kd.R_reads' HO_8.out).2.2 (ji27) p200 q200
                            obtain rfl : ad199 = ad200 := (by injection e200)
                            replace p200 := eq_true p200
                            replace q200 := eq_true q200
                            refine start_ (n := 15) (S := fun w' => w'.cell? (ad199.add (x10_3).toNat) = some (.int .u8 (rd x8_19 x10_3)) ∧ w'.cell? (ad199.add ((ji27)).toNat) = some (.int .u8 (rd x8_19 (ji27)))) (ds := [12, 13]) #[false, false, false, false, false, false, false, false, false, false, false, false, false, false, false] (by kernel_rfl) rfl rfl ⟨hx199_0, hx200_0⟩ (fun hHeld => ?_); refine with_tabW spec_NumberBytes.tab14 spec_NumberBytes.bits14 (fun HT_ HW_ => ?_)
                            generalize wr.drew = w32 at HO_7 HO_8 HB hx199_0 hx200_0 hHeld ⊢
                            refine pure_ (i := 0) (N := some 48) (v := ?_) (a' := ?_) #[true, false, false, false, false, false, false, false, false, false, false, false, false, false, false] rfl rfl (any_of HT_.out (by kernel_rfl)) (fun _ _ _ h => h) (Or.inl ⟨by rfl, ?_⟩) ?_ ?_
                            rotate_left
                            · intro w'
                              go_simp
                              with_reducible rfl
                            rotate_left
                            · simp only [Act.put, List.setIfInBounds_toArray, List.set_cons_zero, List.set_cons_succ, i64_w, i32_w]
                              rfl
                            refine pure_ (i := 1) (N := some 49) (v := ?_) (a' := ?_) #[true, true, false, false, false, false, false, false, false, false, false, false, false, false, false] rfl rfl (any_of HT_.out (by kernel_rfl)) (fun _ _ _ h => h) (Or.inl ⟨by rfl, ?_⟩) ?_ ?_
                            rotate_left
                            · intro w'
                              go_simp
                              with_reducible rfl
                            rotate_left
                            · simp only [Act.put, List.setIfInBounds_toArray, List.set_cons_zero, List.set_cons_succ, i64_w, i32_w]
                              rfl
                            refine pure_ (i := 2) (N := some 50) (v := ?_) (a' := ?_) #[true, true, true, false, false, false, false, false, false, false, false, false, false, false, false] rfl rfl (any_of HT_.out (by kernel_rfl)) (fun _ _ _ h => h) (Or.inl ⟨by rfl, ?_⟩) ?_ ?_
                            rotate_left
                            · intro w'
                              go_simp
                              with_reducible rfl
                            rotate_left
                            · simp only [Act.put, List.setIfInBounds_toArray, List.set_cons_zero, List.set_cons_succ, i64_w, i32_w]
                              rfl
                            refine pure_ (i := 3) (N := some 51) (v := ?_) (a' := ?_) #[true, true, true, true, false, false, false, false, false, false, false, false, false, false, false] rfl rfl (any_of HT_.out (by kernel_rfl)) (fun _ _ _ h => h) (Or.inl ⟨by rfl, ?_⟩) ?_ ?_
                            rotate_left
                            · intro w'
                              go_simp
                              with_reducible rfl
                            rotate_left
                            · simp only [Act.put, List.setIfInBounds_toArray, List.set_cons_zero, List.set_cons_succ, i64_w, i32_w]
                              rfl
                            refine pure_ (i := 6) (N := some 54) (v := ?_) (a' := ?_) #[true, true, true, true, false, false, true, false, false, false, false, false, false, false, false] rfl rfl (any_of HT_.out (by kernel_rfl)) (fun _ _ _ h => h) (Or.inl ⟨by rfl, ?_⟩) ?_ ?_
                            rotate_left
                            · intro w'
                              go_simp
                              with_reducible rfl
                            rotate_left
                            · simp only [Act.put, List.setIfInBounds_toArray, List.set_cons_zero, List.set_cons_succ, i64_w, i32_w]
                              rfl
                            refine pure_ (i := 7) (N := some 55) (v := ?_) (a' := ?_) #[true, true, true, true, false, false, true, true, false, false, false, false, false, false, false] rfl rfl (any_of HT_.out (by kernel_rfl)) (fun _ _ _ h => h) (Or.inl ⟨by rfl, ?_⟩) ?_ ?_
                            rotate_left
                            · intro w'
                              go_simp
                              with_reducible rfl
                            rotate_left
                            · simp only [Act.put, List.setIfInBounds_toArray, List.set_cons_zero, List.set_cons_succ, i64_w, i32_w]
                              rfl
                            refine pure_ (i := 8) (N := some 56) (v := ?_) (a' := ?_) #[true, true, true, true, false, false, true, true, true, false, false, false, false, false, false] rfl rfl (any_of HT_.out (by kernel_rfl)) (fun _ _ _ h => h) (Or.inl ⟨by rfl, ?_⟩) ?_ ?_
                            rotate_left
                            · intro w'
                              go_simp
                              with_reducible rfl
                            rotate_left
                            · simp only [Act.put, List.setIfInBounds_toArray, List.set_cons_zero, List.set_cons_succ, i64_w, i32_w]
                              rfl
                            refine pure_ (i := 9) (N := some 57) (v := ?_) (a' := ?_) #[true, true, true, true, false, false, true, true, true, true, false, false, false, false, false] rfl rfl (any_of HT_.out (by kernel_rfl)) (fun _ _ _ h => h) (Or.inl ⟨by rfl, ?_⟩) ?_ ?_
                            rotate_left
                            · intro w'
                              go_simp
                              with_reducible rfl
                            rotate_left
                            · simp only [Act.put, List.setIfInBounds_toArray, List.set_cons_zero, List.set_cons_succ, i64_w, i32_w]
                              rfl
                            refine take_ (i := 4) (N := some 52) (v := ?_) (a' := ?_) #[true, true, true, true, true, false, true, true, true, true, false, false, false, false, false] rfl rfl (take_ofW HT_.out HW_.out (by kernel_rfl)) (fun _ _ _ h => h) (Or.inl ⟨by rfl, ?_⟩) hHeld ?_ ?_
                            rotate_left
                            · rintro w' ⟨s0, s1⟩
                              go_simp
                              with_reducible rfl
                            rotate_left
                            · simp only [Act.put, List.setIfInBounds_toArray, List.set_cons_zero, List.set_cons_succ, i64_w, i32_w]
                              rfl
                            refine pure_ (i := 5) (N := some 53) (v := ?_) (a' := ?_) #[true, true, true, true, true, true, true, true, true, true, false, false, false, false, false] rfl rfl (any_of HT_.out (by kernel_rfl)) (fun _ _ _ h => h) (Or.inl ⟨by rfl, ?_⟩) ?_ ?_
                            rotate_left
                            · intro w'
                              go_simp
                              with_reducible rfl
                            rotate_left
                            · simp only [Act.put, List.setIfInBounds_toArray, List.set_cons_zero, List.set_cons_succ, i64_w, i32_w]
                              rfl
                            refine take_ (i := 10) (N := some 58) (v := ?_) (a' := ?_) #[true, true, true, true, true, true, true, true, true, true, true, false, false, false, false] rfl rfl (take_ofW HT_.out HW_.out (by kernel_rfl)) (fun _ _ _ h => h) (Or.inl ⟨by rfl, ?_⟩) hHeld ?_ ?_
                            rotate_left
                            · rintro w' ⟨s0, s1⟩
                              go_simp
                              with_reducible rfl
                            rotate_left
                            · simp only [Act.put, List.setIfInBounds_toArray, List.set_cons_zero, List.set_cons_succ, i64_w, i32_w]
                              rfl
                            refine pure_ (i := 11) (N := some 59) (v := ?_) (a' := ?_) #[true, true, true, true, true, true, true, true, true, true, true, true, false, false, false] rfl rfl (any_of HT_.out (by kernel_rfl)) (fun _ _ _ h => h) (Or.inl ⟨by rfl, ?_⟩) ?_ ?_
                            rotate_left
                            · intro w'
                              go_simp
                              with_reducible rfl
                            rotate_left
                            · simp only [Act.put, List.setIfInBounds_toArray, List.set_cons_zero, List.set_cons_succ, i64_w, i32_w]
                              rfl
                            refine last_ (i := 12) (N := some 60) #[true, true, true, true, true, true, true, true, true, true, true, true, true, false, false] rfl rfl (one_of HT_.out (by kernel_rfl)) (by decide) (fun K hK => ?_)
                            refine value_ (w1 := ?_) (v := ?_) (by rfl) rfl ?_ ?_
                            rotate_left 2
                            · go_simp
                              constructor
                              · rfl
                              · rfl
                            refine hK.out _ _ ?_
                            clear hK K
                            refine norm_ (a' := ?_) ?_ ?_
                            rotate_left
                            · show Act.put _ (some 60) _ = _
                              simp only [Act.put, List.setIfInBounds_toArray, List.set_cons_zero, List.set_cons_succ, i64_w, i32_w]
                              rfl
                            refine last_ (i := 13) (N := some 61) #[true, true, true, true, true, true, true, true, true, true, true, true, true, true, false] rfl rfl (one_of HT_.out (by kernel_rfl)) (by decide) (fun K hK => ?_)
                            refine Kd.R_append_step (Kd.int .u8) (w0 := w) w.heap.size (by rfl) (.tmp 48) (.tmp 60) 22 5 (.int .u8 0) 1 rfl Tryd.underlying22 info5 rfl (by decide) (by omega) u7 x7_3 ((((10 * (rd x8_19 x10_3)) % 256) + (rd x8_19 (ji27))) % 256) [.int .u8 ((((10 * (rd x8_19 x10_3)) % 256) + (rd x8_19 (ji27))) % 256)] (fun k_ => some k_ ≠ (.slice (some ad199) x8_19.length co31 : Value).ownBlock) (fun _ => False) rfl rfl ?aP (fun _ hk => hk.elim) ?aF ?aO ?aB ?aS ?aL ?_
                            (case aP => exact rfl)
                            (case aB => exact (by repeat (first | (with_reducible first | exact HB.out | apply below_alloc | apply pw_below_drewN | apply below_drew1) | exact HB.out)))
                            (case aF => exact (fun k_ hk => Kd.fresh' (Kd.R_lt (by (with_reducible repeat (first | apply Kd.R_alloc | apply Kd.R_drewN | apply Kd.R_drew)); exact HO_8.out)) k_ hk))
                            (case aO => exact (by (with_reducible repeat (first | apply Kd.R_alloc | apply Kd.R_drewN | apply Kd.R_drew)); exact HO_7.out))
                            (case aS => exact (below_size (by repeat (first | (with_reducible first | exact HB.out | apply below_alloc | apply pw_below_drewN | apply below_drew1) | exact HB.out))))
                            (case aL => have := LMc30.out; omega)
                            intro v202 w33 ho hb hg hat
                            rw [← Ny201.out] at ho
                            have n0_ := Aside0.mk (Kd.R_after (ok := (fun _ => True)) (by (with_reducible repeat (first | apply Kd.R_alloc | apply Kd.R_drewN | apply Kd.R_drew)); exact Kd.R_mono HO_8.out (fun _ hk => ⟨trivial, hk⟩)) hg hat)
                            have n1_ := Aside0.mk (hb)
                            have n2_ := Aside0.mk (ho)
                            clear HO_8
                            clear HB
                            clear HO_7
                            have HO_8 := n0_
                            have HB := n1_
                            have HO203 := n2_
                            clear n0_ n1_ n2_
                            clear ho hb hg hat
                            refine hK.out _ _ ?_
                            clear hK K
                            refine norm_ (a' := ?_) ?_ ?_
                            rotate_left
                            · show Act.put _ (some 61) _ = _
                              simp only [Act.put, List.setIfInBounds_toArray, List.set_cons_zero, List.set_cons_succ, i64_w, i32_w]
                              rfl
                            refine pure_ (i := 14) (N := some 7) (v := ?_) (a' := ?_) #[true, true, true, true, true, true, true, true, true, true, true, true, true, true, true] rfl rfl (any_of HT_.out (by kernel_rfl)) (fun _ _ _ h => h) (Or.inl ⟨by rfl, ?_⟩) ?_ ?_
                            rotate_left
                            · intro w'
                              go_simp
                              with_reducible rfl
                            rotate_left
                            · simp only [Act.put, List.setIfInBounds_toArray, List.set_cons_zero, List.set_cons_succ, i64_w, i32_w]
                              rfl
                            refine done_ (done_of HT_.out (by kernel_rfl)) ?_
                            try go_wp2
                            go_roundg k3
                            case measure => have := HJ7.out; have := HJ19.out; have := HK3.out; omega
                            case rel => exact ⟨(y201), (wrap64 (x10_3 + 2)), (by first | rfl | (simp; done) | (simp [*]; done)), H', ⟨by have := HJ7.out; have := HJ19.out; have := HK3.out; omega⟩, ⟨by (with_reducible repeat (first | apply Kd.R_alloc | apply Kd.R_drewN | apply Kd.R_drew)); exact HO203.out⟩, ⟨by (with_reducible repeat (first | apply Kd.R_alloc | apply Kd.R_drewN | apply Kd.R_drew)); exact Kd.R_mono HO_8.out (fun _ hk => hk.2)⟩, ⟨by repeat (first | (with_reducible first | exact HB.out | apply below_alloc | apply pw_below_drewN | apply below_drew1) | exact HB.out)⟩⟩
                          · rw [if_neg c30] at H
                            exact absurd H (by simp)
                        · rw [if_neg c29] at H
                          exact absurd H (by simp)
                      · rw [if_neg c28] at H
                        exact absurd H (by simp)
                    · rw [if_neg c26] at H
                      exact absurd H (by simp)
                  · rw [if_neg c25] at H
                    have c25b0 : decide (x10_3 < (x8_19.length : Int)) = false := decide_eq_false c25
                    clear c25
                    by_cases c34 : a1 = true
                    · subst c34
                      have H1 : (spec_NumberBytes.l2 k3 x7_3 (([(wrap64 (62 - (wrap64 (Int.tdiv x9_7 2)))) % 256] : List Int)) x7_3 (x7_3.length : Int) 0) = some r := by rw [if_pos rfl] at H; exact H
                      clear H
                      have H := H1
                      clear H1
                      obtain ⟨y211, hy211⟩ : ∃ y_ : List Int, y_ = (([(wrap64 (62 - (wrap64 (Int.tdiv x9_7 2)))) % 256] : List Int)) := ⟨_, rfl⟩
                      replace H : (spec_NumberBytes.l2 k3 x7_3 y211 x7_3 (x7_3.length : Int) 0) = some r := by first | (rw [hy211]; with_reducible exact H) | (have H2_ := (Option.bind_some _ _).symm.trans H; rw [hy211]; with_reducible exact H2_) | (have H2_ := (Option.bind_some _ _).symm.trans H; with_reducible exact H2_) | with_reducible exact H | (rw [hy211]; exact H) | exact H
                      have Ny211 := Aside0.mk hy211
                      clear hy211
                      have H' := Aside0.mk H
                      clear H
                      obtain ⟨Ao35, co35, eo35⟩ := Kd.R_slice HO_8.out
                      subst eo35
                      go_wp2_with (first | ((with_reducible refine gate_dst (N := 86) rfl ?_); refine Kd.R_lit (Kd.int .u8) _ 5 ?hg (N := 86) ?hd (xs := ([(wrap64 (62 - (wrap64 (Int.tdiv x9_7 2)))) % 256] : List Int)) (inner := [.int .u8 ((wrap64 (62 - (wrap64 (Int.tdiv x9_7 2)))) % 256)]) (ok := fun _ => True) (okp := fun _ => True) ?hr ?hp (fun _ hk => hk) trivial (Below.refl _ _) (Nat.le_refl _) (by simp) ?_; (case hd => rfl); (case hg => rfl); (case hr => first | (go_simp; done) | (go_simp; rfl)); (case hp => exact (Reps.one (show Kd.M (Kd.int .u8) _ _ _ ((wrap64 (62 - (wrap64 (Int.tdiv x9_7 2)))) % 256) [.int .u8 ((wrap64 (62 - (wrap64 (Int.tdiv x9_7 2)))) % 256)] from rfl) (Reps.none _ _))); intro v212 w36 ho37 hb hg_ hnew_; clear hg_ hnew_; (first | rw [← Ny211.out] at ho37 | (simp only [Int.reduceToNat] at ho37; rw [← Ny211.out] at ho37)); have n0_ := Aside0.mk (Kd.R_elder' (by (with_reducible repeat (first | apply Kd.R_alloc | apply Kd.R_drewN | apply Kd.R_drew)); exact HO_7.out) (Kd.R_base ho37) hb); have n1_ := Aside0.mk (Kd.R_elder' (by (with_reducible repeat (first | apply Kd.R_alloc | apply Kd.R_drewN | apply Kd.R_drew)); exact HO_8.out) (Kd.R_base ho37) hb); have n2_ := Aside0.mk (Kd.R_lower (Kd.R_new' (Kd.R_new' ho37 (Kd.R_lt (by (with_reducible repeat (first | apply Kd.R_alloc | apply Kd.R_drewN | apply Kd.R_drew)); exact HO_7.out))) (Kd.R_lt (by (with_reducible repeat (first | apply Kd.R_alloc | apply Kd.R_drewN | apply Kd.R_drew)); exact HO_8.out))) (below_size (by repeat (first | (with_reducible first | exact HB.out | apply below_alloc | apply pw_below_drewN | apply below_drew1) | exact HB.out)))); have n3_ := Aside0.mk (below_step (by repeat (first | (with_reducible first | exact HB.out | apply below_alloc | apply pw_below_drewN | apply below_drew1) | exact HB.out)) hb); clear HO_7; clear HO_8; clear HB; have HO_7 := n0_; have HO_8 := n1_; have HO213 := n2_; have HB := n3_; clear n0_ n1_ n2_ n3_; clear hb ho37; obtain ⟨Ao38, co38, eo38⟩ := Kd.R_slice HO_7.out; subst eo38))
                      go_loopg [15, 89] k3 (fun kq v15 v89 w' => ∃ (x15_4 : List Int) (x89_4 : Int), v89 = .int .i64 x89_4 ∧ Aside0 (spec_NumberBytes.l2 kq x7_3 x15_4 x7_3 (x7_3.length : Int) x89_4 = some r) ∧ Aside0 (kq ≤ k3) ∧ Aside0 (Kd.R (Kd.int .u8) 5 w' w.heap.size (fun k_ => some k_ ≠ (v15 : Value).ownBlock) (.slice Ao38 x7_3.length co38) x7_3) ∧ Aside0 (Kd.R (Kd.int .u8) 5 w' w.heap.size (fun k_ => some k_ ≠ ((.slice Ao38 x7_3.length co38) : Value).ownBlock ∧ some k_ ≠ ((.slice Ao38 x7_3.length co38) : Value).ownBlock) v15 x15_4) ∧ Aside0 (Kd.R (Kd.int .u8) 5 w' w.heap.size (fun k_ => some k_ ≠ (v15 : Value).ownBlock) (.slice Ao38 x7_3.length co38) x7_3) ∧ Aside0 (Below w.heap.size w w'))
                      case atStart => exact ⟨(y211), (0), (by first | rfl | (simp; done) | (simp [*]; done)), H', ⟨Nat.le_refl _⟩, ⟨by (with_reducible repeat (first | apply Kd.R_alloc | apply Kd.R_drewN | apply Kd.R_drew)); exact Kd.R_mono HO_7.out (fun _ hk => hk.2)⟩, ⟨by (with_reducible repeat (first | apply Kd.R_alloc | apply Kd.R_drewN | apply Kd.R_drew)); exact Kd.R_mono HO213.out (fun _ hk => ⟨hk.1.2, hk.1.2⟩)⟩, ⟨by (with_reducible repeat (first | apply Kd.R_alloc | apply Kd.R_drewN | apply Kd.R_drew)); exact Kd.R_mono HO_7.out (fun _ hk => hk.2)⟩, ⟨by repeat (first | (with_reducible first | exact HB.out | apply below_alloc | apply pw_below_drewN | apply below_drew1) | exact HB.out)⟩⟩
                      case round =>
                        clear H'
                        try clear c1
                        try clear p1
                        try clear q1
                        try clear hx1
                        try clear c2
                        try clear p2
                        try clear q2
                        try clear hx2
                        try clear c3
                        try clear c4
                        try clear c4b0
                        try clear c4b1
                        try clear c4b2
                        try clear p6
                        try clear c7
                        try clear c14
                        try clear c14b0
                        try clear c14b1
                        try clear c15
                        try clear c17
                        try clear p19
                        try clear q19
                        try clear hx19
                        try clear p20
                        try clear q20
                        try clear hx20
                        try clear c22
                        try clear c22b0
                        try clear c22b1
                        try clear c23
                        try clear c25
                        try clear c25b0
                        try clear c26
                        try clear c26b0
                        try clear c28
                        try clear c28b0
                        try clear c29
                        try clear c29b0
                        try clear c30
                        try clear c34
                        try clear hx199_0
                        try clear hx200_0
                        try clear p199
                        try clear p2
                        try clear p200
                        try clear p6
                        try clear q199
                        try clear q200
                        obtain ⟨x15_4, x89_4, rfl, HA, HK4, HO_7, HO_15, HO_87, HB⟩ := hrel
                        cases gk with
                        | zero => exact absurd HA.out (by simp [spec_NumberBytes.l2])
                        | succ k4 =>
                          have H := HA.out
                          clear HA
                          simp only [spec_NumberBytes.l2] at H
                          by_cases c39 : x89_4 < (x7_3.length : Int)
                          · rw [if_pos c39] at H
                            have c39b0 : decide (x89_4 < (x7_3.length : Int)) = true := decide_eq_true c39
                            clear c39
                            by_cases c40 : 0 ≤ x89_4
                            · rw [if_pos c40] at H
                              have c40b0 : decide (0 ≤ x89_4) = true := decide_eq_true c40
                              clear c40
                              by_cases c41 : x89_4 < (x7_3.length : Int)
                              · rw [if_pos c41] at H
                                have c41b0 : decide (x89_4 < (x7_3.length : Int)) = true := decide_eq_true c41
                                clear c41
                                by_cases c42 : x15_4.length < 140737488355328
                                · rw [if_pos c42] at H
                                  have LMc42 := Aside0.mk c42
                                  clear c42
                                  obtain ⟨y215, hy215⟩ : ∃ y_ : List Int, y_ = (x15_4 ++ [(101 - (rd x7_3 x89_4)) % 256]) := ⟨_, rfl⟩
                                  replace H : (spec_NumberBytes.l2 k4 x7_3 y215 x7_3 (x7_3.length : Int) (wrap64 (x89_4 + 1))) = some r := by first | (rw [hy215]; with_reducible exact H) | (have H2_ := (Option.bind_some _ _).symm.trans H; rw [hy215]; with_reducible exact H2_) | (have H2_ := (Option.bind_some _ _).symm.trans H; with_reducible exact H2_) | with_reducible exact H | (rw [hy215]; exact H) | exact H
                                  have Ny215 := Aside0.mk hy215
                                  clear hy215
                                  have H' := Aside0.mk H
                                  clear H
                                  have p214 : 0 ≤ (x89_4 : Int) := of_decide_eq_true (by first | (with_reducible assumption) | assumption)
                                  have q214 : x89_4 < (x7_3.length : Int) := of_decide_eq_true (by first | (with_reducible assumption) | assumption)
                                  obtain ⟨ad214, e214, hx214_0⟩ := Kd.at_int (Kd.R_reads' HO_87.out).2.2 x89_4 p214 q214
                                  cases e214
                                  replace p214 := eq_true p214
                                  replace q214 := eq_true q214
                                  go_wp2_with (first | ((with_reducible refine gate_builtin (b := .append) (xs := #[.tmp 93, .tmp 96]) rfl ?_); at_builtin; refine Kd.R_append (Kd.int .u8) (w0 := w) w.heap.size rfl (.tmp 93) (.tmp 96) 22 5 (.int .u8 0) 1 rfl Tryd.underlying22 info5 rfl (by decide) (by omega) u15 x15_4 ((101 - (rd x7_3 x89_4)) % 256) [.int .u8 ((101 - (rd x7_3 x89_4)) % 256)] (fun k_ => some k_ ≠ (.slice (some ad214) x7_3.length co38 : Value).ownBlock ∧ some k_ ≠ (.slice (some ad214) x7_3.length co38 : Value).ownBlock) (fun _ => False) rfl rfl ?aP (fun _ hk => hk.elim) ?aF ?aO ?aB ?aS ?aL ?_; (case aP => exact rfl); (case aB => exact (by repeat (first | (with_reducible first | exact HB.out | apply below_alloc | apply pw_below_drewN | apply below_drew1) | exact HB.out))); (case aF => exact (fun k_ hk => ⟨Kd.fresh' (Kd.R_lt (by (with_reducible repeat (first | apply Kd.R_alloc | apply Kd.R_drewN | apply Kd.R_drew)); exact HO_7.out)) k_ hk, Kd.fresh' (Kd.R_lt (by (with_reducible repeat (first | apply Kd.R_alloc | apply Kd.R_drewN | apply Kd.R_drew)); exact HO_87.out)) k_ hk⟩)); (case aO => exact (by (with_reducible repeat (first | apply Kd.R_alloc | apply Kd.R_drewN | apply Kd.R_drew)); exact HO_15.out)); (case aS => exact (below_size (by repeat (first | (with_reducible first | exact HB.out | apply below_alloc | apply pw_below_drewN | apply below_drew1) | exact HB.out)))); (case aL => have := LMc42.out; omega); intro v216 w43 ho hb hg hat; rw [← Ny215.out] at ho; have n0_ := Aside0.mk (Kd.R_after (ok := (fun _ => True)) (by (with_reducible repeat (first | apply Kd.R_alloc | apply Kd.R_drewN | apply Kd.R_drew)); exact Kd.R_mono HO_7.out (fun _ hk => ⟨trivial, hk⟩)) hg hat); have n1_ := Aside0.mk (Kd.R_after (ok := (fun _ => True)) (by (with_reducible repeat (first | apply Kd.R_alloc | apply Kd.R_drewN | apply Kd.R_drew)); exact Kd.R_mono HO_87.out (fun _ hk => ⟨trivial, hk⟩)) hg hat); have n2_ := Aside0.mk (hb); have n3_ := Aside0.mk (ho); clear HO_7; clear HO_87; clear HB; clear HO_15; have HO_7 := n0_; have HO_87 := n1_; have HB := n2_; have HO217 := n3_; clear n0_ n1_ n2_ n3_; clear ho hb hg hat))
                                  go_roundg k4
                                  case measure => have := HJ7.out; have := HJ19.out; have := HK3.out; have := HK4.out; omega
                                  case rel => exact ⟨(y215), (wrap64 (x89_4 + 1)), (by first | rfl | (simp; done) | (simp [*]; done)), H', ⟨by have := HJ7.out; have := HJ19.out; have := HK3.out; have := HK4.out; omega⟩, ⟨by (with_reducible repeat (first | apply Kd.R_alloc | apply Kd.R_drewN | apply Kd.R_drew)); exact Kd.R_mono HO_7.out (fun _ hk => hk.2)⟩, ⟨by (with_reducible repeat (first | apply Kd.R_alloc | apply Kd.R_drewN | apply Kd.R_drew)); exact HO217.out⟩, ⟨by (with_reducible repeat (first | apply Kd.R_alloc | apply Kd.R_drewN | apply Kd.R_drew)); exact Kd.R_mono HO_87.out (fun _ hk => hk.2)⟩, ⟨by repeat (first | (with_reducible first | exact HB.out | apply below_alloc | apply pw_below_drewN | apply below_drew1) | exact HB.out)⟩⟩
                                · rw [if_neg c42] at H
                                  exact absurd H (by simp)
                              · rw [if_neg c41] at H
                                exact absurd H (by simp)
                            · rw [if_neg c40] at H
                              exact absurd H (by simp)
                          · rw [if_neg c39] at H
                            have c39b0 : decide (x89_4 < (x7_3.length : Int)) = false := decide_eq_false c39
                            clear c39
                            by_cases c44 : (x7_3.length : Int) < 20
                            · rw [if_pos c44] at H
                              have c44b0 : decide ((x7_3.length : Int) < 20) = true := decide_eq_true c44
                              have c44b1 : decide (x7_3.length < 20) = true := decide_eq_true (by omega)
                              clear c44
                              by_cases c45 : x15_4.length < 140737488355328
                              · rw [if_pos c45] at H
                                have LMc45 := Aside0.mk c45
                                clear c45
                                obtain ⟨y218, hy218⟩ : ∃ y_ : List Int, y_ = (x15_4 ++ [102]) := ⟨_, rfl⟩
                                replace H : (some y218) = some r := by first | (rw [hy218]; with_reducible exact H) | (have H2_ := (Option.bind_some _ _).symm.trans H; rw [hy218]; with_reducible exact H2_) | (have H2_ := (Option.bind_some _ _).symm.trans H; with_reducible exact H2_) | with_reducible exact H | (rw [hy218]; exact H) | exact H
                                have Ny218 := Aside0.mk hy218
                                clear hy218
                                obtain rfl := Option.some.inj H
                                go_wp2_with (first | ((with_reducible refine gate_builtin (b := .append) (xs := #[.tmp 102, .tmp 103]) rfl ?_); at_builtin; refine Kd.R_append (Kd.int .u8) (w0 := w) w.heap.size rfl (.tmp 102) (.tmp 103) 22 5 (.int .u8 0) 1 rfl Tryd.underlying22 info5 rfl (by decide) (by omega) u15 x15_4 102 [.int .u8 102] (fun k_ => some k_ ≠ (.slice Ao38 x7_3.length co38 : Value).ownBlock ∧ some k_ ≠ (.slice Ao38 x7_3.length co38 : Value).ownBlock) (fun _ => False) rfl rfl ?aP (fun _ hk => hk.elim) ?aF ?aO ?aB ?aS ?aL ?_; (case aP => exact rfl); (case aB => exact (by repeat (first | (with_reducible first | exact HB.out | apply below_alloc | apply pw_below_drewN | apply below_drew1) | exact HB.out))); (case aF => exact (fun k_ hk => ⟨Kd.fresh' (Kd.R_lt (by (with_reducible repeat (first | apply Kd.R_alloc | apply Kd.R_drewN | apply Kd.R_drew)); exact HO_7.out)) k_ hk, Kd.fresh' (Kd.R_lt (by (with_reducible repeat (first | apply Kd.R_alloc | apply Kd.R_drewN | apply Kd.R_drew)); exact HO_87.out)) k_ hk⟩)); (case aO => exact (by (with_reducible repeat (first | apply Kd.R_alloc | apply Kd.R_drewN | apply Kd.R_drew)); exact HO_15.out)); (case aS => exact (below_size (by repeat (first | (with_reducible first | exact HB.out | apply below_alloc | apply pw_below_drewN | apply below_drew1) | exact HB.out)))); (case aL => have := LMc45.out; omega); intro v219 w46 ho hb hg hat; rw [← Ny218.out] at ho; have n0_ := Aside0.mk (Kd.R_after (ok := (fun _ => True)) (by (with_reducible repeat (first | apply Kd.R_alloc | apply Kd.R_drewN | apply Kd.R_drew)); exact Kd.R_mono HO_7.out (fun _ hk => ⟨trivial, hk⟩)) hg hat); have n1_ := Aside0.mk (Kd.R_after (ok := (fun _ => True)) (by (with_reducible repeat (first | apply Kd.R_alloc | apply Kd.R_drewN | apply Kd.R_drew)); exact Kd.R_mono HO_87.out (fun _ hk => ⟨trivial, hk⟩)) hg hat); have n2_ := Aside0.mk (hb); have n3_ := Aside0.mk (ho); clear HO_7; clear HO_87; clear HB; clear HO_15; have HO_7 := n0_; have HO_87 := n1_; have HB := n2_; have HO220 := n3_; clear n0_ n1_ n2_ n3_; clear ho hb hg hat))
                                go_ret
                                exact ⟨_, by first | rfl | (simp [errW_none, errW_some] <;> rfl) | (simp [*, errW_none, errW_some] <;> rfl), by (with_reducible repeat (first | apply Kd.R_alloc | apply Kd.R_drewN | apply Kd.R_drew)); exact Kd.R_mono HO220.out (fun _ hk => trivial), by repeat (first | (with_reducible first | exact HB.out | apply below_alloc | apply pw_below_drewN | apply below_drew1) | exact HB.out)⟩
                              · rw [if_neg c45] at H
                                exact absurd H (by simp)
                            · rw [if_neg c44] at H
                              have c44b0 : decide ((x7_3.length : Int) < 20) = false := decide_eq_false c44
                              have c44b1 : decide (x7_3.length < 20) = false := decide_eq_false (by omega)
                              clear c44
                              obtain rfl := Option.some.inj H
                              go_wp2
                              go_ret
                              exact ⟨_, by first | rfl | (simp [errW_none, errW_some] <;> rfl) | (simp [*, errW_none, errW_some] <;> rfl), by (with_reducible repeat (first | apply Kd.R_alloc | apply Kd.R_drewN | apply Kd.R_drew)); exact Kd.R_mono HO_15.out (fun _ hk => trivial), by repeat (first | (with_reducible first | exact HB.out | apply below_alloc | apply pw_below_drewN | apply below_drew1) | exact HB.out)⟩
                    · replace c34 := Bool.eq_false_iff.mpr c34
                      subst c34
                      have H1 : (spec_NumberBytes.l1 k3 (([(wrap64 (193 + (wrap64 (Int.tdiv x9_7 2)))) % 256] : List Int)) x7_3 (x7_3.length : Int) 0) = some r := by rw [if_neg (show ¬ (false = true) by decide)] at H; exact H
                      clear H
                      have H := H1
                      clear H1
                      obtain ⟨y204, hy204⟩ : ∃ y_ : List Int, y_ = (([(wrap64 (193 + (wrap64 (Int.tdiv x9_7 2)))) % 256] : List Int)) := ⟨_, rfl⟩
                      replace H : (spec_NumberBytes.l1 k3 y204 x7_3 (x7_3.length : Int) 0) = some r := by first | (rw [hy204]; with_reducible exact H) | (have H2_ := (Option.bind_some _ _).symm.trans H; rw [hy204]; with_reducible exact H2_) | (have H2_ := (Option.bind_some _ _).symm.trans H; with_reducible exact H2_) | with_reducible exact H | (rw [hy204]; exact H) | exact H
                      have Ny204 := Aside0.mk hy204
                      clear hy204
                      have H' := Aside0.mk H
                      clear H
                      obtain ⟨Ao47, co47, eo47⟩ := Kd.R_slice HO_8.out
                      subst eo47
                      go_wp2_with (first | ((with_reducible refine gate_dst (N := 69) rfl ?_); refine Kd.R_lit (Kd.int .u8) _ 5 ?hg (N := 69) ?hd (xs := ([(wrap64 (193 + (wrap64 (Int.tdiv x9_7 2)))) % 256] : List Int)) (inner := [.int .u8 ((wrap64 (193 + (wrap64 (Int.tdiv x9_7 2)))) % 256)]) (ok := fun _ => True) (okp := fun _ => True) ?hr ?hp (fun _ hk => hk) trivial (Below.refl _ _) (Nat.le_refl _) (by simp) ?_; (case hd => rfl); (case hg => rfl); (case hr => first | (go_simp; done) | (go_simp; rfl)); (case hp => exact (Reps.one (show Kd.M (Kd.int .u8) _ _ _ ((wrap64 (193 + (wrap64 (Int.tdiv x9_7 2)))) % 256) [.int .u8 ((wrap64 (193 + (wrap64 (Int.tdiv x9_7 2)))) % 256)] from rfl) (Reps.none _ _))); intro v205 w48 ho49 hb hg_ hnew_; clear hg_ hnew_; (first | rw [← Ny204.out] at ho49 | (simp only [Int.reduceToNat] at ho49; rw [← Ny204.out] at ho49)); have n0_ := Aside0.mk (Kd.R_elder' (by (with_reducible repeat (first | apply Kd.R_alloc | apply Kd.R_drewN | apply Kd.R_drew)); exact HO_7.out) (Kd.R_base ho49) hb); have n1_ := Aside0.mk (Kd.R_elder' (by (with_reducible repeat (first | apply Kd.R_alloc | apply Kd.R_drewN | apply Kd.R_drew)); exact HO_8.out) (Kd.R_base ho49) hb); have n2_ := Aside0.mk (Kd.R_lower (Kd.R_new' (Kd.R_new' ho49 (Kd.R_lt (by (with_reducible repeat (first | apply Kd.R_alloc | apply Kd.R_drewN | apply Kd.R_drew)); exact HO_7.out))) (Kd.R_lt (by (with_reducible repeat (first | apply Kd.R_alloc | apply Kd.R_drewN | apply Kd.R_drew)); exact HO_8.out))) (below_size (by repeat (first | (with_reducible first | exact HB.out | apply below_alloc | apply pw_below_drewN | apply below_drew1) | exact HB.out)))); have n3_ := Aside0.mk (below_step (by repeat (first | (with_reducible first | exact HB.out | apply below_alloc | apply pw_below_drewN | apply below_drew1) | exact HB.out)) hb); clear HO_7; clear HO_8; clear HB; have HO_7 := n0_; have HO_8 := n1_; have HO206 := n2_; have HB := n3_; clear n0_ n1_ n2_ n3_; clear hb ho49; obtain ⟨Ao50, co50, eo50⟩ := Kd.R_slice HO_7.out; subst eo50))
                      go_loopg [12, 72] k3 (fun kq v12 v72 w' => ∃ (x12_4 : List Int) (x72_4 : Int), v72 = .int .i64 x72_4 ∧ Aside0 (spec_NumberBytes.l1 kq x12_4 x7_3 (x7_3.length : Int) x72_4 = some r) ∧ Aside0 (kq ≤ k3) ∧ Aside0 (Kd.R (Kd.int .u8) 5 w' w.heap.size (fun k_ => some k_ ≠ ((.slice Ao50 x7_3.length co50) : Value).ownBlock) v12 x12_4) ∧ Aside0 (Kd.R (Kd.int .u8) 5 w' w.heap.size (fun k_ => some k_ ≠ (v12 : Value).ownBlock) (.slice Ao50 x7_3.length co50) x7_3) ∧ Aside0 (Below w.heap.size w w'))
                      case atStart => exact ⟨(y204), (0), (by first | rfl | (simp; done) | (simp [*]; done)), H', ⟨Nat.le_refl _⟩, ⟨by (with_reducible repeat (first | apply Kd.R_alloc | apply Kd.R_drewN | apply Kd.R_drew)); exact Kd.R_mono HO206.out (fun _ hk => hk.1.2)⟩, ⟨by (with_reducible repeat (first | apply Kd.R_alloc | apply Kd.R_drewN | apply Kd.R_drew)); exact Kd.R_mono HO_7.out (fun _ hk => hk.2)⟩, ⟨by repeat (first | (with_reducible first | exact HB.out | apply below_alloc | apply pw_below_drewN | apply below_drew1) | exact HB.out)⟩⟩
                      case round =>
                        clear H'
                        try clear c1
                        try clear p1
                        try clear q1
                        try clear hx1
                        try clear c2
                        try clear p2
                        try clear q2
                        try clear hx2
                        try clear c3
                        try clear c4
                        try clear c4b0
                        try clear c4b1
                        try clear c4b2
                        try clear p6
                        try clear c7
                        try clear c14
                        try clear c14b0
                        try clear c14b1
                        try clear c15
                        try clear c17
                        try clear p19
                        try clear q19
                        try clear hx19
                        try clear p20
                        try clear q20
                        try clear hx20
                        try clear p21
                        try clear q21
                        try clear hx21
                        try clear c22
                        try clear c22b0
                        try clear c22b1
                        try clear c23
                        try clear c25
                        try clear c25b0
                        try clear c26
                        try clear c26b0
                        try clear c28
                        try clear c28b0
                        try clear c29
                        try clear c29b0
                        try clear c30
                        try clear c34
                        try clear c39
                        try clear c39b0
                        try clear c40
                        try clear c40b0
                        try clear c41
                        try clear c41b0
                        try clear c42
                        try clear c44
                        try clear c44b0
                        try clear c44b1
                        try clear c45
                        try clear hx199_0
                        try clear hx200_0
                        try clear hx214_0
                        try clear p1
                        try clear p19
                        try clear p199
                        try clear p2
                        try clear p20
                        try clear p200
                        try clear p214
                        try clear p6
                        try clear q1
                        try clear q19
                        try clear q199
                        try clear q2
                        try clear q20
                        try clear q200
                        try clear q214
                        obtain ⟨x12_4, x72_4, rfl, HA, HK4, HO_12, HO_70, HB⟩ := hrel
                        cases gk with
                        | zero => exact absurd HA.out (by simp [spec_NumberBytes.l1])
                        | succ k4 =>
                          have H := HA.out
                          clear HA
                          simp only [spec_NumberBytes.l1] at H
                          by_cases c51 : x72_4 < (x7_3.length : Int)
                          · rw [if_pos c51] at H
                            have c51b0 : decide (x72_4 < (x7_3.length : Int)) = true := decide_eq_true c51
                            clear c51
                            by_cases c52 : 0 ≤ x72_4
                            · rw [if_pos c52] at H
                              have c52b0 : decide (0 ≤ x72_4) = true := decide_eq_true c52
                              clear c52
                              by_cases c53 : x72_4 < (x7_3.length : Int)
                              · rw [if_pos c53] at H
                                have c53b0 : decide (x72_4 < (x7_3.length : Int)) = true := decide_eq_true c53
                                clear c53
                                by_cases c54 : x12_4.length < 140737488355328
                                · rw [if_pos c54] at H
                                  have LMc54 := Aside0.mk c54
                                  clear c54
                                  obtain ⟨y208, hy208⟩ : ∃ y_ : List Int, y_ = (x12_4 ++ [((rd x7_3 x72_4) + 1) % 256]) := ⟨_, rfl⟩
                                  replace H : (spec_NumberBytes.l1 k4 y208 x7_3 (x7_3.length : Int) (wrap64 (x72_4 + 1))) = some r := by first | (rw [hy208]; with_reducible exact H) | (have H2_ := (Option.bind_some _ _).symm.trans H; rw [hy208]; with_reducible exact H2_) | (have H2_ := (Option.bind_some _ _).symm.trans H; with_reducible exact H2_) | with_reducible exact H | (rw [hy208]; exact H) | exact H
                                  have Ny208 := Aside0.mk hy208
                                  clear hy208
                                  have H' := Aside0.mk H
                                  clear H
                                  have p207 : 0 ≤ (x72_4 : Int) := of_decide_eq_true (by first | (with_reducible assumption) | assumption)
                                  have q207 : x72_4 < (x7_3.length : Int) := of_decide_eq_true (by first | (with_reducible assumption) | assumption)
                                  obtain ⟨ad207, e207, hx207_0⟩ := Kd.at_int (Kd.R_reads' HO_70.out).2.2 x72_4 p207 q207
                                  cases e207
                                  replace p207 := eq_true p207
                                  replace q207 := eq_true q207
                                  go_wp2_with (first | ((with_reducible refine gate_builtin (b := .append) (xs := #[.tmp 76, .tmp 79]) rfl ?_); at_builtin; refine Kd.R_append (Kd.int .u8) (w0 := w) w.heap.size rfl (.tmp 76) (.tmp 79) 22 5 (.int .u8 0) 1 rfl Tryd.underlying22 info5 rfl (by decide) (by omega) u12 x12_4 (((rd x7_3 x72_4) + 1) % 256) [.int .u8 (((rd x7_3 x72_4) + 1) % 256)] (fun k_ => some k_ ≠ (.slice (some ad207) x7_3.length co50 : Value).ownBlock) (fun _ => False) rfl rfl ?aP (fun _ hk => hk.elim) ?aF ?aO ?aB ?aS ?aL ?_; (case aP => exact rfl); (case aB => exact (by repeat (first | (with_reducible first | exact HB.out | apply below_alloc | apply pw_below_drewN | apply below_drew1) | exact HB.out))); (case aF => exact (fun k_ hk => Kd.fresh' (Kd.R_lt (by (with_reducible repeat (first | apply Kd.R_alloc | apply Kd.R_drewN | apply Kd.R_drew)); exact HO_70.out)) k_ hk)); (case aO => exact (by (with_reducible repeat (first | apply Kd.R_alloc | apply Kd.R_drewN | apply Kd.R_drew)); exact HO_12.out)); (case aS => exact (below_size (by repeat (first | (with_reducible first | exact HB.out | apply below_alloc | apply pw_below_drewN | apply below_drew1) | exact HB.out)))); (case aL => have := LMc54.out; omega); intro v209 w55 ho hb hg hat; rw [← Ny208.out] at ho; have n0_ := Aside0.mk (Kd.R_after (ok := (fun _ => True)) (by (with_reducible repeat (first | apply Kd.R_alloc | apply Kd.R_drewN | apply Kd.R_drew)); exact Kd.R_mono HO_70.out (fun _ hk => ⟨trivial, hk⟩)) hg hat); have n1_ := Aside0.mk (hb); have n2_ := Aside0.mk (ho); clear HO_70; clear HB; clear HO_12; have HO_70 := n0_; have HB := n1_; have HO210 := n2_; clear n0_ n1_ n2_; clear ho hb hg hat))
                                  go_roundg k4
                                  case measure => have := HJ7.out; have := HJ19.out; have := HK3.out; have := HK4.out; omega
                                  case rel => exact ⟨(y208), (wrap64 (x72_4 + 1)), (by first | rfl | (simp; done) | (simp [*]; done)), H', ⟨by have := HJ7.out; have := HJ19.out; have := HK3.out; have := HK4.out; omega⟩, ⟨by (with_reducible repeat (first | apply Kd.R_alloc | apply Kd.R_drewN | apply Kd.R_drew)); exact HO210.out⟩, ⟨by (with_reducible repeat (first | apply Kd.R_alloc | apply Kd.R_drewN | apply Kd.R_drew)); exact Kd.R_mono HO_70.out (fun _ hk => hk.2)⟩, ⟨by repeat (first | (with_reducible first | exact HB.out | apply below_alloc | apply pw_below_drewN | apply below_drew1) | exact HB.out)⟩⟩
                                · rw [if_neg c54] at H
                                  exact absurd H (by simp)
                              · rw [if_neg c53] at H
                                exact absurd H (by simp)
                            · rw [if_neg c52] at H
                              exact absurd H (by simp)
                          · rw [if_neg c51] at H
                            have c51b0 : decide (x72_4 < (x7_3.length : Int)) = false := decide_eq_false c51
                            clear c51
                            obtain rfl := Option.some.inj H
                            go_wp2
                            go_ret
                            exact ⟨_, by first | rfl | (simp [errW_none, errW_some] <;> rfl) | (simp [*, errW_none, errW_some] <;> rfl), by (with_reducible repeat (first | apply Kd.R_alloc | apply Kd.R_drewN | apply Kd.R_drew)); exact Kd.R_mono HO_12.out (fun _ hk => trivial), by repeat (first | (with_reducible first | exact HB.out | apply below_alloc | apply pw_below_drewN | apply below_drew1) | exact HB.out)⟩
    · rw [if_neg c7] at H
      exact absurd H (by simp)

end Go.Proofs.YtepooaejlofkkaaDoor.ZN
