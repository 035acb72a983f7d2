-- Written by a program of this session (wip/xprint.py), which calls the kit's print.
import Derived.Test.YtepooaejlofkkaaDoorZU0
import Derived.Test.YtepooaejlofkkaaDoorZU1
import Derived.Test.YtepooaejlofkkaaDoorZU2
import Derived.Test.YtepooaejlofkkaaDoorNum
import Derived.Test.YtepooaejlofkkaaDoorCb
import Derived.Test.YtepooaejlofkkaaDoorEu
namespace Go.Proofs.YtepooaejlofkkaaDoor.ZU
open Go.RowKit Go.Proofs.YtepooaejlofkkaaDoor.X Go.Proofs.YtepooaejlofkkaaDoorW.PrintWords Go.Proofs.YtepooaejlofkkaaDoorW.PrintLast Go.Proofs.YtepooaejlofkkaaDoorW.PrintMore
attribute [local go_sem] max2_int min2_int max_two min_two max_three min_three max_four min_four   -- for this text's walks alone
set_option linter.unusedVariables false
set_option linter.unusedSimpArgs false

/-! ### converters_DecodeInt: function 42 -/
mutual
def converters_DecodeInt.j0 : Nat → Int → Bool → Int → Bool → Option (Int)
  | 0, _, _, _, _ => none
  | k + 1, x3, x4, x5, x21 => if x21 = true then (some 0) else (converters_DecodeInt.l0 k x3 x4 x5)
def converters_DecodeInt.l0 : Nat → Int → Bool → Int → Option (Int)
  | 0, _, _, _ => none
  | k + 1, x3, x4, x5 => if x5 > 0 then (converters_DecodeInt.l0 k (IntKind.u64.wrap (x3 * 10)) x4 (wrap64 (x5 - 1))) else (if x4 = true then (if (x3 / 9223372036854775808) = 0 then (some (wrap64 (-(wrap64 (x3))))) else (some (wrap64 (x3)))) else (some (wrap64 (x3))))
end
def converters_DecodeInt.f (k : Nat) (l0 : List Int) : Option (Int) := (converters_FromNumber.f k l0).bind fun bt125 => (if bt125.2.2.2.2.isNone = true then (converters_DecodeInt.j0 k bt125.1 bt125.2.1 bt125.2.2.1 (decide (bt125.2.2.1 < 0))) else (converters_DecodeInt.j0 k bt125.1 bt125.2.1 bt125.2.2.1 true))
theorem converters_DecodeInt.mono_l : ∀ k, (∀ y0 y1 y2 y3, LeO (converters_DecodeInt.j0 k y0 y1 y2 y3) (converters_DecodeInt.j0 (k + 1) y0 y1 y2 y3)) ∧ (∀ y0 y1 y2, LeO (converters_DecodeInt.l0 k y0 y1 y2) (converters_DecodeInt.l0 (k + 1) y0 y1 y2))
  | 0 => ⟨fun _ _ _ _ r h => by simp [converters_DecodeInt.j0] at h, fun _ _ _ r h => by simp [converters_DecodeInt.l0] at h⟩
  | k + 1 => by
    obtain ⟨ih0, ih1⟩ := converters_DecodeInt.mono_l k
    refine ⟨?_, ?_⟩
    · intro y0 y1 y2 y3
      unfold converters_DecodeInt.j0
      repeat' first
      | (with_reducible exact ih0 _ _ _ _)
      | (with_reducible exact ih1 _ _ _)
      | (with_reducible exact converters_FromNumber.mono _ _)
      | (with_reducible exact LeO.refl _)
      | (with_reducible exact LeO.none _)
      | (with_reducible refine LeO.ite ?_ ?_)
      | (with_reducible refine LeO.bind ?_ (fun _ => ?_))
      | exact ih0 _ _ _ _
      | exact ih1 _ _ _
      | exact converters_FromNumber.mono _ _
      | exact LeO.none _
      | refine LeO.ite ?_ ?_
      | refine LeO.bind ?_ (fun _ => ?_)
    · intro y0 y1 y2
      unfold converters_DecodeInt.l0
      repeat' first
      | (with_reducible exact ih0 _ _ _ _)
      | (with_reducible exact ih1 _ _ _)
      | (with_reducible exact converters_FromNumber.mono _ _)
      | (with_reducible exact LeO.refl _)
      | (with_reducible exact LeO.none _)
      | (with_reducible refine LeO.ite ?_ ?_)
      | (with_reducible refine LeO.bind ?_ (fun _ => ?_))
      | exact ih0 _ _ _ _
      | exact ih1 _ _ _
      | exact converters_FromNumber.mono _ _
      | exact LeO.none _
      | refine LeO.ite ?_ ?_
      | refine LeO.bind ?_ (fun _ => ?_)
theorem converters_DecodeInt.mono : ∀ a0 k, LeO (converters_DecodeInt.f k a0) (converters_DecodeInt.f (k + 1) a0) := by
  intro a0 k
  obtain ⟨ih0, ih1⟩ := converters_DecodeInt.mono_l k
  unfold converters_DecodeInt.f
  repeat' first
      | (with_reducible exact ih0 _ _ _ _)
      | (with_reducible exact ih1 _ _ _)
      | (with_reducible exact converters_FromNumber.mono _ _)
      | (with_reducible exact LeO.refl _)
      | (with_reducible exact LeO.none _)
      | (with_reducible refine LeO.ite ?_ ?_)
      | (with_reducible refine LeO.bind ?_ (fun _ => ?_))
      | exact ih0 _ _ _ _
      | exact ih1 _ _ _
      | exact converters_FromNumber.mono _ _
      | exact LeO.none _
      | refine LeO.ite ?_ ?_
      | refine LeO.bind ?_ (fun _ => ?_)
set_option maxHeartbeats 8000000 in
set_option maxRecDepth 100000 in
theorem converters_DecodeInt.calls (k : Nat) (A0 : Option Addr) (c0 : Nat) (l0 : List Int) (r : Int) (w : World) (hr0 : Kd.C (Kd.int .u8) w A0 l0.length l0) (hc0 : l0.length ≤ c0) (h : converters_DecodeInt.f k l0 = some r) :
    Calls Tryd.prog 42 #[.slice A0 l0.length c0] w fun e w' => e = .returned (.int .i64 r) ∧ Below w.heap.size w w' := by
  have hu50 := Tryd.underlying50
  have HR0 := Aside0.mk hr0
  have HC0 := Aside0.mk hc0
  clear hr0 hc0
  have HB := Aside0.mk (Below.refl w.heap.size w)
  have H : ((converters_FromNumber.f k l0).bind fun bt125 => (if bt125.2.2.2.2.isNone = true then (converters_DecodeInt.j0 k bt125.1 bt125.2.1 bt125.2.2.1 (decide (bt125.2.2.1 < 0))) else (converters_DecodeInt.j0 k bt125.1 bt125.2.1 bt125.2.2.1 true))) = some r := h
  clear h
  replace H := Option.bind_eq_some_iff.mp H
  obtain ⟨⟨t125, t126, t127, t128, t129⟩, A20, H⟩ := H
  replace H : (if t129.isNone = true then (converters_DecodeInt.j0 k t125 t126 t127 (decide (t127 < 0))) else (converters_DecodeInt.j0 k t125 t126 t127 true)) = some r := H
  have A2 := Aside0.mk A20
  clear A20
  have HC3 := Aside0.mk H
  clear H
  go_enter Tryd.func42, Tryd.ntmps42
  go_upto_region 2 with (first | ((with_reducible refine gate_callee (f := 35) rfl ?_); refine goesL_ (some 10) rfl rfl Tryd.func35 (by kernel_rfl) rfl #[.slice A0 l0.length c0] rfl (by (try simp only [List.map_toArray, List.map_cons, List.map_nil]); first | done | rfl | (simp only [List.length_drop, List.length_take]; rfl)) ?_; (with_reducible refine (converters_FromNumber.calls k (fun k_ => k_ < w.heap.size) _ _ l0 t125 t126 t127 t128 t129 _ ?side1 A2.out).mono ?_); (case side1 => exact Kd.V_mk HC0.out (Kd.F_below (Kd.C_F (Kd.heap_int .u8) HR0.out) (by repeat (first | (with_reducible first | exact HB.out | apply below_alloc | apply pw_below_drewN | apply below_drew1) | exact HB.out)))); rintro e w4 ⟨rfl, hb⟩; refine ⟨_, rfl, ?_⟩; have n0_ := Aside0.mk (below_step (by repeat (first | (with_reducible first | exact HB.out | apply below_alloc | apply pw_below_drewN | apply below_drew1) | exact HB.out)) hb); clear HB; have HB := n0_; clear n0_; (try clear hb); (try clear hb2); (try clear hk); (try clear hi); (try simp only [errW_none, errW_some])))
  (try simp only [Act.put, List.setIfInBounds_toArray, List.set_cons_zero, List.set_cons_succ])
  go_cut [21] (fun v21 wc => ∃ (kq : Nat) (x21_2 : Bool), v21 = .bool x21_2 ∧ Aside0 (converters_DecodeInt.j0 kq t125 t126 t127 x21_2 = some r) ∧ Aside0 (kq ≤ k) ∧ Aside0 (Below w.heap.size w wc))
  case first =>
    have H := HC3.out
    clear HC3
    rcases t129 with _ | q130
    · have H1 : (converters_DecodeInt.j0 k t125 t126 t127 (decide (t127 < 0))) = some r := by rw [if_pos (show (none : Option Int).isNone = true by rfl)] at H; exact H
      clear H
      have H := H1
      clear H1
      try simp only [errW_none, errW_some]
      have H' := Aside0.mk H
      clear H
      go_wp2
      go_meet
      case rel => exact ⟨_, (decide (t127 < 0)), (by first | rfl | (simp; done) | (simp [*]; done)), H', ⟨by first | omega | exact Nat.le_refl _⟩, ⟨by repeat (first | (with_reducible first | exact HB.out | apply below_alloc | apply pw_below_drewN | apply below_drew1) | exact HB.out)⟩⟩
    · have H1 : (converters_DecodeInt.j0 k t125 t126 t127 true) = some r := by rw [if_neg (show ¬ (some q130).isNone = true by simp)] at H; exact H
      clear H
      have H := H1
      clear H1
      try simp only [errW_none, errW_some]
      have H' := Aside0.mk H
      clear H
      go_wp2
      go_meet
      case rel => exact ⟨_, (true), (by first | rfl | (simp; done) | (simp [*]; done)), H', ⟨by first | omega | exact Nat.le_refl _⟩, ⟨by repeat (first | (with_reducible first | exact HB.out | apply below_alloc | apply pw_below_drewN | apply below_drew1) | exact HB.out)⟩⟩
  case rest =>
    clear HC3
    try clear q1
    try clear p2
    try clear c3
    try clear c4
    try clear q130
    obtain ⟨kq, x21_2, rfl, HA, HJ2, HB⟩ := hcut
    cases kq with
    | zero => exact absurd HA.out (by simp [converters_DecodeInt.j0])
    | succ kj2 =>
      have H := HA.out
      clear HA
      simp only [converters_DecodeInt.j0] at H
      by_cases c5 : x21_2 = true
      · subst c5
        have H1 : (some 0) = some r := by rw [if_pos rfl] at H; exact H
        clear H
        have H := H1
        clear H1
        obtain rfl := Option.some.inj H
        go_wp2
        go_ret
        exact ⟨by first | rfl | (simp [errW_none, errW_some] <;> rfl) | (simp [*, errW_none, errW_some] <;> rfl), by repeat (first | (with_reducible first | exact HB.out | apply below_alloc | apply pw_below_drewN | apply below_drew1) | exact HB.out)⟩
      · replace c5 := Bool.eq_false_iff.mpr c5
        subst c5
        have H1 : (converters_DecodeInt.l0 kj2 t125 t126 t127) = some r := by rw [if_neg (show ¬ (false = true) by decide)] at H; exact H
        clear H
        have H := H1
        clear H1
        have H' := Aside0.mk H
        clear H
        go_wp2
        go_loopg [3, 5] kj2 (fun kq v3 v5 w' => ∃ (x3_2 : Int) (x5_2 : Int), v3 = .int .u64 x3_2 ∧ v5 = .int .i64 x5_2 ∧ Aside0 (converters_DecodeInt.l0 kq x3_2 t126 x5_2 = some r) ∧ Aside0 (kq ≤ kj2) ∧ Aside0 (Below w.heap.size w w'))
        case atStart => exact ⟨(t125), (t127), (by first | rfl | (simp; done) | (simp [*]; done)), (by first | rfl | (simp; done) | (simp [*]; done)), H', ⟨Nat.le_refl _⟩, ⟨by repeat (first | (with_reducible first | exact HB.out | apply below_alloc | apply pw_below_drewN | apply below_drew1) | exact HB.out)⟩⟩
        case round =>
          clear H'
          try clear q1
          try clear p2
          try clear c3
          try clear c4
          try clear c5
          try clear p2
          try clear q1
          try clear q130
          obtain ⟨x3_2, x5_2, rfl, rfl, HA, HK2, HB⟩ := hrel
          cases gk with
          | zero => exact absurd HA.out (by simp [converters_DecodeInt.l0])
          | succ k2 =>
            have H := HA.out
            clear HA
            simp only [converters_DecodeInt.l0] at H
            by_cases c6 : x5_2 > 0
            · rw [if_pos c6] at H
              have c6b0 : decide (0 < x5_2) = true := decide_eq_true c6
              clear c6
              have H' := Aside0.mk H
              clear H
              go_wp2
              go_roundg k2
              case measure => have := HJ2.out; have := HK2.out; omega
              case rel => exact ⟨(IntKind.u64.wrap (x3_2 * 10)), (wrap64 (x5_2 - 1)), (by first | rfl | (simp; done) | (simp [*]; done)), (by first | rfl | (simp; done) | (simp [*]; done)), H', ⟨by have := HJ2.out; have := HK2.out; omega⟩, ⟨by repeat (first | (with_reducible first | exact HB.out | apply below_alloc | apply pw_below_drewN | apply below_drew1) | exact HB.out)⟩⟩
            · rw [if_neg c6] at H
              have c6b0 : decide (0 < x5_2) = false := decide_eq_false c6
              clear c6
              by_cases c7 : t126 = true
              · subst c7
                have H1 : (if (x3_2 / 9223372036854775808) = 0 then (some (wrap64 (-(wrap64 (x3_2))))) else (some (wrap64 (x3_2)))) = some r := by rw [if_pos rfl] at H; exact H
                clear H
                have H := H1
                clear H1
                by_cases c8 : (x3_2 / 9223372036854775808) = 0
                · rw [if_pos c8] at H
                  have c8b0 : ((x3_2 / 9223372036854775808) == 0) = true := beq_iff_eq.mpr c8
                  have c8b1 : ((x3_2 / 9223372036854775808) != 0) = false := bne_eq_false_iff_eq.mpr c8
                  clear c8
                  obtain rfl := Option.some.inj H
                  go_wp2
                  go_ret
                  exact ⟨by first | rfl | (simp [errW_none, errW_some] <;> rfl) | (simp [*, errW_none, errW_some] <;> rfl), by repeat (first | (with_reducible first | exact HB.out | apply below_alloc | apply pw_below_drewN | apply below_drew1) | exact HB.out)⟩
                · rw [if_neg c8] at H
                  have c8b0 : ((x3_2 / 9223372036854775808) == 0) = false := beq_eq_false_iff_ne.mpr c8
                  have c8b1 : ((x3_2 / 9223372036854775808) != 0) = true := bne_iff_ne.mpr c8
                  obtain rfl := Option.some.inj H
                  go_wp2
                  go_ret
                  exact ⟨by first | rfl | (simp [errW_none, errW_some] <;> rfl) | (simp [*, errW_none, errW_some] <;> rfl), by repeat (first | (with_reducible first | exact HB.out | apply below_alloc | apply pw_below_drewN | apply below_drew1) | exact HB.out)⟩
              · replace c7 := Bool.eq_false_iff.mpr c7
                subst c7
                have H1 : (some (wrap64 (x3_2))) = some r := by rw [if_neg (show ¬ (false = true) by decide)] at H; exact H
                clear H
                have H := H1
                clear H1
                obtain rfl := Option.some.inj H
                go_wp2
                go_ret
                exact ⟨by first | rfl | (simp [errW_none, errW_some] <;> rfl) | (simp [*, errW_none, errW_some] <;> rfl), by repeat (first | (with_reducible first | exact HB.out | apply below_alloc | apply pw_below_drewN | apply below_drew1) | exact HB.out)⟩

/-! ### impl_NumberInt: function 32 -/
def impl_NumberInt.f (k : Nat) (l0 : List Int) : Option (Int) := (bytes_Clone.f l0).bind fun t131 => ((converters_DecodeInt.f k t131).bind fun t134 => (some t134))
theorem impl_NumberInt.mono : ∀ a0 k, LeO (impl_NumberInt.f k a0) (impl_NumberInt.f (k + 1) a0) := by
  intro a0 k
  unfold impl_NumberInt.f
  repeat' first
      | (with_reducible exact converters_DecodeInt.mono _ _)
      | (with_reducible exact LeO.refl _)
      | (with_reducible exact LeO.none _)
      | (with_reducible refine LeO.ite ?_ ?_)
      | (with_reducible refine LeO.bind ?_ (fun _ => ?_))
      | exact converters_DecodeInt.mono _ _
      | exact LeO.none _
      | refine LeO.ite ?_ ?_
      | refine LeO.bind ?_ (fun _ => ?_)
set_option maxHeartbeats 8000000 in
set_option maxRecDepth 100000 in
theorem impl_NumberInt.calls (k : Nat) (A0 : Option Addr) (c0 : Nat) (l0 : List Int) (r : Int) (w : World) (hr0 : Kd.C (Kd.int .u8) w A0 l0.length l0) (hc0 : l0.length ≤ c0) (h : impl_NumberInt.f k l0 = some r) :
    Calls Tryd.prog 32 #[.slice A0 l0.length c0] w fun e w' => e = .returned (.int .i64 r) ∧ Below w.heap.size w w' := by
  have HR0 := Aside0.mk hr0
  have HC0 := Aside0.mk hc0
  clear hr0 hc0
  have HB := Aside0.mk (Below.refl w.heap.size w)
  have H : ((bytes_Clone.f l0).bind fun t131 => ((converters_DecodeInt.f k t131).bind fun t134 => (some t134))) = some r := h
  clear h
  replace H := Option.bind_eq_some_iff.mp H
  obtain ⟨t131, A20, H⟩ := H
  replace H : ((converters_DecodeInt.f k t131).bind fun t134 => (some t134)) = some r := H
  have A2 := Aside0.mk A20
  clear A20
  replace H := Option.bind_eq_some_iff.mp H
  obtain ⟨t134, A30, H⟩ := H
  replace H : (some t134) = some r := H
  have A3 := Aside0.mk A30
  clear A30
  obtain rfl := Option.some.inj H
  go_enter Tryd.func32, Tryd.ntmps32
  go_wp2_with (first | ((with_reducible refine gate_callee (f := 27) rfl ?_); refine goesL_ (some 4) rfl rfl Tryd.func27 (by kernel_rfl) rfl #[.slice A0 l0.length c0] rfl (by (try simp only [List.map_toArray, List.map_cons, List.map_nil]); first | done | rfl | (simp only [List.length_drop, List.length_take]; rfl)) ?_; (with_reducible refine (bytes_Clone.calls _ _ l0 t131 _ ?side1 ?side2 A2.out).mono ?_); (case side1 => repeat (first | exact HR0.out | (with_reducible refine Kd.C_alloc ?_ _) | (with_reducible refine Kd.C_drewN ?_ _) | (with_reducible refine Kd.C_drew ?_))); (case side2 => exact HC0.out); rintro e w4 ⟨v132, rfl, ho0, hb⟩; refine ⟨_, rfl, ?_⟩; have n0_ := Aside0.mk (Kd.R_lower ho0 (below_size (by repeat (first | (with_reducible first | exact HB.out | apply below_alloc | apply pw_below_drewN | apply below_drew1) | exact HB.out)))); have n1_ := Aside0.mk (below_step (by repeat (first | (with_reducible first | exact HB.out | apply below_alloc | apply pw_below_drewN | apply below_drew1) | exact HB.out)) hb); clear HB; have HO133 := n0_; have HB := n1_; clear n0_ n1_; (try clear hb); (try clear hb2); (try clear hk); (try clear hi); (try clear ho0); obtain ⟨Ao5, co5, eo5⟩ := Kd.R_slice HO133.out; subst eo5) | ((with_reducible refine gate_callee (f := 42) rfl ?_); refine goesL_ (some 5) rfl rfl Tryd.func42 (by kernel_rfl) rfl #[.slice Ao5 t131.length co5] rfl (by (try simp only [List.map_toArray, List.map_cons, List.map_nil]); first | done | rfl | (simp only [List.length_drop, List.length_take]; rfl)) ?_; (with_reducible refine (converters_DecodeInt.calls k _ _ t131 t134 _ ?side1 ?side2 A3.out).mono ?_); (case side1 => repeat (first | exact (Kd.R_reads' HO133.out).2.2 | (with_reducible refine Kd.C_alloc ?_ _) | (with_reducible refine Kd.C_drewN ?_ _) | (with_reducible refine Kd.C_drew ?_))); (case side2 => exact (Kd.R_reads' HO133.out).2.1); rintro e w6 ⟨rfl, hb⟩; refine ⟨_, rfl, ?_⟩; have n0_ := Aside0.mk (Kd.R_below (by (with_reducible repeat (first | apply Kd.R_alloc | apply Kd.R_drewN | apply Kd.R_drew)); exact HO133.out) hb); have n1_ := Aside0.mk (below_step (by repeat (first | (with_reducible first | exact HB.out | apply below_alloc | apply pw_below_drewN | apply below_drew1) | exact HB.out)) hb); clear HO133; clear HB; have HO133 := n0_; have HB := n1_; clear n0_ n1_; (try clear hb); (try clear hb2); (try clear hk); (try clear hi)))
  go_ret
  exact ⟨by first | rfl | (simp [errW_none, errW_some] <;> rfl) | (simp [*, errW_none, errW_some] <;> rfl), by repeat (first | (with_reducible first | exact HB.out | apply below_alloc | apply pw_below_drewN | apply below_drew1) | exact HB.out)⟩

/-! ### laws_numberAwake: function 12 -/
def laws_numberAwake.f (k : Nat)  : Option (Bool) := (impl_NumberOfInt64.f 123).bind fun t135 => ((spec_NumberSame.f t135 (([194, 2, 24] : List Int))).bind fun t141 => (if t141 = true then ((impl_NumberInt.f k (([194, 2, 24] : List Int))).bind fun t145 => (some (t145 == 123))) else (some false)))
theorem laws_numberAwake.mono : ∀ k, LeO (laws_numberAwake.f k ) (laws_numberAwake.f (k + 1) ) := by
  intro  k
  unfold laws_numberAwake.f
  repeat' first
      | (with_reducible exact impl_NumberInt.mono _ _)
      | (with_reducible exact LeO.refl _)
      | (with_reducible exact LeO.none _)
      | (with_reducible refine LeO.ite ?_ ?_)
      | (with_reducible refine LeO.bind ?_ (fun _ => ?_))
      | exact impl_NumberInt.mono _ _
      | exact LeO.none _
      | refine LeO.ite ?_ ?_
      | refine LeO.bind ?_ (fun _ => ?_)
set_option maxHeartbeats 8000000 in
set_option maxRecDepth 100000 in
theorem laws_numberAwake.calls (k : Nat)  (r : Bool) (w : World) (h : laws_numberAwake.f k  = some r) (htab : Tab w) :
    Calls Tryd.prog 12 #[] w fun e w' => e = .returned (.bool r) ∧ Below w.heap.size w w' := by
  have HT := Aside0.mk (tab_all htab)
  clear htab
  have HB := Aside0.mk (Below.refl w.heap.size w)
  have H : ((impl_NumberOfInt64.f 123).bind fun t135 => ((spec_NumberSame.f t135 (([194, 2, 24] : List Int))).bind fun t141 => (if t141 = true then ((impl_NumberInt.f k (([194, 2, 24] : List Int))).bind fun t145 => (some (t145 == 123))) else (some false)))) = some r := h
  clear h
  replace H := Option.bind_eq_some_iff.mp H
  obtain ⟨t135, A10, H⟩ := H
  replace H : ((spec_NumberSame.f t135 (([194, 2, 24] : List Int))).bind fun t141 => (if t141 = true then ((impl_NumberInt.f k (([194, 2, 24] : List Int))).bind fun t145 => (some (t145 == 123))) else (some false))) = some r := H
  have A1 := Aside0.mk A10
  clear A10
  obtain ⟨y138, hy138⟩ : ∃ y_ : List Int, y_ = (([194, 2, 24] : List Int)) := ⟨_, rfl⟩
  replace H : ((spec_NumberSame.f t135 y138).bind fun t141 => (if t141 = true then ((impl_NumberInt.f k (([194, 2, 24] : List Int))).bind fun t145 => (some (t145 == 123))) else (some false))) = some r := by first | (rw [hy138]; with_reducible exact H) | (have H2_ := (Option.bind_some _ _).symm.trans H; rw [hy138]; with_reducible exact H2_) | (have H2_ := (Option.bind_some _ _).symm.trans H; with_reducible exact H2_) | with_reducible exact H | (rw [hy138]; exact H) | exact H
  have Ny138 := Aside0.mk hy138
  clear hy138
  replace H := Option.bind_eq_some_iff.mp H
  obtain ⟨t141, A20, H⟩ := H
  replace H : (if t141 = true then ((impl_NumberInt.f k (([194, 2, 24] : List Int))).bind fun t145 => (some (t145 == 123))) else (some false)) = some r := H
  have A2 := Aside0.mk A20
  clear A20
  by_cases c3 : t141 = true
  · subst c3
    have H1 : ((impl_NumberInt.f k (([194, 2, 24] : List Int))).bind fun t145 => (some (t145 == 123))) = some r := by rw [if_pos rfl] at H; exact H
    clear H
    have H := H1
    clear H1
    obtain ⟨y142, hy142⟩ : ∃ y_ : List Int, y_ = (([194, 2, 24] : List Int)) := ⟨_, rfl⟩
    replace H : ((impl_NumberInt.f k y142).bind fun t145 => (some (t145 == 123))) = some r := by first | (rw [hy142]; with_reducible exact H) | (have H2_ := (Option.bind_some _ _).symm.trans H; rw [hy142]; with_reducible exact H2_) | (have H2_ := (Option.bind_some _ _).symm.trans H; with_reducible exact H2_) | with_reducible exact H | (rw [hy142]; exact H) | exact H
    have Ny142 := Aside0.mk hy142
    clear hy142
    replace H := Option.bind_eq_some_iff.mp H
    obtain ⟨t145, A40, H⟩ := H
    replace H : (some (t145 == 123)) = some r := H
    have A4 := Aside0.mk A40
    clear A40
    obtain rfl := Option.some.inj H
    go_enter Tryd.func12, Tryd.ntmps12
    go_wp2_with (first | ((with_reducible refine gate_callee (f := 10) rfl ?_); refine goesL_ (some 1) rfl rfl Tryd.func10 (by kernel_rfl) rfl #[.int .i64 123] rfl (by (try simp only [List.map_toArray, List.map_cons, List.map_nil]); first | done | rfl | (simp only [List.length_drop, List.length_take]; rfl)) ?_; (with_reducible refine (impl_NumberOfInt64.calls 123 t135 _ A1.out ?side99).mono ?_); (case side99 => exact HT.out _ (by repeat (first | (with_reducible first | exact HB.out | apply below_alloc | apply pw_below_drewN | apply below_drew1) | exact HB.out))); rintro e w5 ⟨v136, rfl, ho0, hb⟩; refine ⟨_, rfl, ?_⟩; have n0_ := Aside0.mk (Kd.R_lower ho0 (below_size (by repeat (first | (with_reducible first | exact HB.out | apply below_alloc | apply pw_below_drewN | apply below_drew1) | exact HB.out)))); have n1_ := Aside0.mk (below_step (by repeat (first | (with_reducible first | exact HB.out | apply below_alloc | apply pw_below_drewN | apply below_drew1) | exact HB.out)) hb); clear HB; have HO137 := n0_; have HB := n1_; clear n0_ n1_; (try clear hb); (try clear hb2); (try clear hk); (try clear hi); (try clear ho0)) | ((with_reducible refine gate_dst (N := 2) rfl ?_); (try (refine gate_guard (by rfl) ?_; dsimp only)); refine Kd.R_lit (Kd.int .u8) _ 5 ?hg (N := 2) ?hd (xs := ([194, 2, 24] : List Int)) (inner := [.int .u8 194, .int .u8 2, .int .u8 24]) (ok := fun _ => True) (okp := fun _ => True) ?hr ?hp (fun _ hk => hk) trivial (Below.refl _ _) (Nat.le_refl _) (by simp) ?_; (case hd => rfl); (case hg => rfl); (case hr => first | (go_simp; done) | (go_simp; rfl)); (case hp => exact (Reps.one (show Kd.M (Kd.int .u8) _ _ _ 194 [.int .u8 194] from rfl) (Reps.one (show Kd.M (Kd.int .u8) _ _ _ 2 [.int .u8 2] from rfl) (Reps.one (show Kd.M (Kd.int .u8) _ _ _ 24 [.int .u8 24] from rfl) (Reps.none _ _))))); intro v139 w6 ho7 hb hg_ hnew_; clear hg_ hnew_; (first | rw [← Ny138.out] at ho7 | (simp only [Int.reduceToNat] at ho7; rw [← Ny138.out] at ho7)); have n0_ := Aside0.mk (Kd.R_elder' (by (with_reducible repeat (first | apply Kd.R_alloc | apply Kd.R_drewN | apply Kd.R_drew)); exact HO137.out) (Kd.R_base ho7) hb); have n1_ := Aside0.mk (Kd.R_lower (Kd.R_new' ho7 (Kd.R_lt (by (with_reducible repeat (first | apply Kd.R_alloc | apply Kd.R_drewN | apply Kd.R_drew)); exact HO137.out))) (below_size (by repeat (first | (with_reducible first | exact HB.out | apply below_alloc | apply pw_below_drewN | apply below_drew1) | exact HB.out)))); have n2_ := Aside0.mk (below_step (by repeat (first | (with_reducible first | exact HB.out | apply below_alloc | apply pw_below_drewN | apply below_drew1) | exact HB.out)) hb); clear HO137; clear HB; have HO137 := n0_; have HO140 := n1_; have HB := n2_; clear n0_ n1_ n2_; clear hb ho7; obtain ⟨Ao8, co8, eo8⟩ := Kd.R_slice HO137.out; subst eo8; obtain ⟨Ao9, co9, eo9⟩ := Kd.R_slice HO140.out; subst eo9) | ((with_reducible refine gate_callee (f := 14) rfl ?_); refine goesL_ (some 3) rfl rfl Tryd.func14 (by kernel_rfl) rfl #[.slice Ao8 t135.length co8, .slice Ao9 y138.length co9] rfl (by (try simp only [List.map_toArray, List.map_cons, List.map_nil]); first | done | rfl | (simp only [List.length_drop, List.length_take]; rfl)) ?_; (with_reducible refine (spec_NumberSame.calls _ _ t135 _ _ y138 true _ ?side1 ?side2 ?side3 ?side4 A2.out).mono ?_); (case side1 => repeat (first | exact (Kd.R_reads' HO137.out).2.2 | (with_reducible refine Kd.C_alloc ?_ _) | (with_reducible refine Kd.C_drewN ?_ _) | (with_reducible refine Kd.C_drew ?_))); (case side2 => exact (Kd.R_reads' HO137.out).2.1); (case side3 => repeat (first | exact (Kd.R_reads' HO140.out).2.2 | (with_reducible refine Kd.C_alloc ?_ _) | (with_reducible refine Kd.C_drewN ?_ _) | (with_reducible refine Kd.C_drew ?_))); (case side4 => exact (Kd.R_reads' HO140.out).2.1); rintro e w' ⟨rfl, ⟨nd, rfl⟩⟩; refine ⟨_, rfl, ?_⟩) | ((with_reducible refine gate_dst (N := 5) rfl ?_); (try (refine gate_guard (by rfl) ?_; dsimp only)); refine Kd.R_lit (Kd.int .u8) _ 5 ?hg (N := 5) ?hd (xs := ([194, 2, 24] : List Int)) (inner := [.int .u8 194, .int .u8 2, .int .u8 24]) (ok := fun _ => True) (okp := fun _ => True) ?hr ?hp (fun _ hk => hk) trivial (Below.refl _ _) (Nat.le_refl _) (by simp) ?_; (case hd => rfl); (case hg => rfl); (case hr => first | (go_simp; done) | (go_simp; rfl)); (case hp => exact (Reps.one (show Kd.M (Kd.int .u8) _ _ _ 194 [.int .u8 194] from rfl) (Reps.one (show Kd.M (Kd.int .u8) _ _ _ 2 [.int .u8 2] from rfl) (Reps.one (show Kd.M (Kd.int .u8) _ _ _ 24 [.int .u8 24] from rfl) (Reps.none _ _))))); intro v143 w10 ho11 hb hg_ hnew_; clear hg_ hnew_; (first | rw [← Ny142.out] at ho11 | (simp only [Int.reduceToNat] at ho11; rw [← Ny142.out] at ho11)); have n0_ := Aside0.mk (Kd.R_elder' (by (with_reducible repeat (first | apply Kd.R_alloc | apply Kd.R_drewN | apply Kd.R_drew)); exact HO137.out) (Kd.R_base ho11) hb); have n1_ := Aside0.mk (Kd.R_elder' (by (with_reducible repeat (first | apply Kd.R_alloc | apply Kd.R_drewN | apply Kd.R_drew)); exact HO140.out) (Kd.R_base ho11) hb); have n2_ := Aside0.mk (Kd.R_lower (Kd.R_new' (Kd.R_new' ho11 (Kd.R_lt (by (with_reducible repeat (first | apply Kd.R_alloc | apply Kd.R_drewN | apply Kd.R_drew)); exact HO137.out))) (Kd.R_lt (by (with_reducible repeat (first | apply Kd.R_alloc | apply Kd.R_drewN | apply Kd.R_drew)); exact HO140.out))) (below_size (by repeat (first | (with_reducible first | exact HB.out | apply below_alloc | apply pw_below_drewN | apply below_drew1) | exact HB.out)))); have n3_ := Aside0.mk (below_step (by repeat (first | (with_reducible first | exact HB.out | apply below_alloc | apply pw_below_drewN | apply below_drew1) | exact HB.out)) hb); clear HO137; clear HO140; clear HB; have HO137 := n0_; have HO140 := n1_; have HO144 := n2_; have HB := n3_; clear n0_ n1_ n2_ n3_; clear hb ho11; obtain ⟨Ao12, co12, eo12⟩ := Kd.R_slice HO144.out; subst eo12) | (go_at_call 32; (with_reducible refine (impl_NumberInt.calls k _ _ y142 t145 _ ?side1 ?side2 A4.out).mono ?_); (case side1 => repeat (first | exact (Kd.R_reads' HO144.out).2.2 | (with_reducible refine Kd.C_alloc ?_ _) | (with_reducible refine Kd.C_drewN ?_ _) | (with_reducible refine Kd.C_drew ?_))); (case side2 => exact (Kd.R_reads' HO144.out).2.1); rintro e w13 ⟨rfl, hb⟩; have n0_ := Aside0.mk (Kd.R_below (by (with_reducible repeat (first | apply Kd.R_alloc | apply Kd.R_drewN | apply Kd.R_drew)); exact HO137.out) hb); have n1_ := Aside0.mk (Kd.R_below (by (with_reducible repeat (first | apply Kd.R_alloc | apply Kd.R_drewN | apply Kd.R_drew)); exact HO140.out) hb); have n2_ := Aside0.mk (Kd.R_below (by (with_reducible repeat (first | apply Kd.R_alloc | apply Kd.R_drewN | apply Kd.R_drew)); exact HO144.out) hb); have n3_ := Aside0.mk (below_step (by repeat (first | (with_reducible first | exact HB.out | apply below_alloc | apply pw_below_drewN | apply below_drew1) | exact HB.out)) hb); clear HO137; clear HO140; clear HO144; clear HB; have HO137 := n0_; have HO140 := n1_; have HO144 := n2_; have HB := n3_; clear n0_ n1_ n2_ n3_; (try clear hb); (try clear hb2); (try clear hk); (try clear hi)))
    go_ret
    exact ⟨by first | rfl | (simp [errW_none, errW_some] <;> rfl) | (simp [*, errW_none, errW_some] <;> rfl), by repeat (first | (with_reducible first | exact HB.out | apply below_alloc | apply pw_below_drewN | apply below_drew1) | exact HB.out)⟩
  · replace c3 := Bool.eq_false_iff.mpr c3
    subst c3
    have H1 : (some false) = some r := by rw [if_neg (show ¬ (false = true) by decide)] at H; exact H
    clear H
    have H := H1
    clear H1
    obtain rfl := Option.some.inj H
    go_enter Tryd.func12, Tryd.ntmps12
    go_wp2_with (first | ((with_reducible refine gate_callee (f := 10) rfl ?_); refine goesL_ (some 1) rfl rfl Tryd.func10 (by kernel_rfl) rfl #[.int .i64 123] rfl (by (try simp only [List.map_toArray, List.map_cons, List.map_nil]); first | done | rfl | (simp only [List.length_drop, List.length_take]; rfl)) ?_; (with_reducible refine (impl_NumberOfInt64.calls 123 t135 _ A1.out ?side99).mono ?_); (case side99 => exact HT.out _ (by repeat (first | (with_reducible first | exact HB.out | apply below_alloc | apply pw_below_drewN | apply below_drew1) | exact HB.out))); rintro e w14 ⟨v136, rfl, ho0, hb⟩; refine ⟨_, rfl, ?_⟩; have n0_ := Aside0.mk (Kd.R_lower ho0 (below_size (by repeat (first | (with_reducible first | exact HB.out | apply below_alloc | apply pw_below_drewN | apply below_drew1) | exact HB.out)))); have n1_ := Aside0.mk (below_step (by repeat (first | (with_reducible first | exact HB.out | apply below_alloc | apply pw_below_drewN | apply below_drew1) | exact HB.out)) hb); clear HB; have HO137 := n0_; have HB := n1_; clear n0_ n1_; (try clear hb); (try clear hb2); (try clear hk); (try clear hi); (try clear ho0)) | ((with_reducible refine gate_dst (N := 2) rfl ?_); (try (refine gate_guard (by rfl) ?_; dsimp only)); refine Kd.R_lit (Kd.int .u8) _ 5 ?hg (N := 2) ?hd (xs := ([194, 2, 24] : List Int)) (inner := [.int .u8 194, .int .u8 2, .int .u8 24]) (ok := fun _ => True) (okp := fun _ => True) ?hr ?hp (fun _ hk => hk) trivial (Below.refl _ _) (Nat.le_refl _) (by simp) ?_; (case hd => rfl); (case hg => rfl); (case hr => first | (go_simp; done) | (go_simp; rfl)); (case hp => exact (Reps.one (show Kd.M (Kd.int .u8) _ _ _ 194 [.int .u8 194] from rfl) (Reps.one (show Kd.M (Kd.int .u8) _ _ _ 2 [.int .u8 2] from rfl) (Reps.one (show Kd.M (Kd.int .u8) _ _ _ 24 [.int .u8 24] from rfl) (Reps.none _ _))))); intro v139 w15 ho16 hb hg_ hnew_; clear hg_ hnew_; (first | rw [← Ny138.out] at ho16 | (simp only [Int.reduceToNat] at ho16; rw [← Ny138.out] at ho16)); have n0_ := Aside0.mk (Kd.R_elder' (by (with_reducible repeat (first | apply Kd.R_alloc | apply Kd.R_drewN | apply Kd.R_drew)); exact HO137.out) (Kd.R_base ho16) hb); have n1_ := Aside0.mk (Kd.R_lower (Kd.R_new' ho16 (Kd.R_lt (by (with_reducible repeat (first | apply Kd.R_alloc | apply Kd.R_drewN | apply Kd.R_drew)); exact HO137.out))) (below_size (by repeat (first | (with_reducible first | exact HB.out | apply below_alloc | apply pw_below_drewN | apply below_drew1) | exact HB.out)))); have n2_ := Aside0.mk (below_step (by repeat (first | (with_reducible first | exact HB.out | apply below_alloc | apply pw_below_drewN | apply below_drew1) | exact HB.out)) hb); clear HO137; clear HB; have HO137 := n0_; have HO140 := n1_; have HB := n2_; clear n0_ n1_ n2_; clear hb ho16; obtain ⟨Ao17, co17, eo17⟩ := Kd.R_slice HO137.out; subst eo17; obtain ⟨Ao18, co18, eo18⟩ := Kd.R_slice HO140.out; subst eo18) | ((with_reducible refine gate_callee (f := 14) rfl ?_); refine goesL_ (some 3) rfl rfl Tryd.func14 (by kernel_rfl) rfl #[.slice Ao17 t135.length co17, .slice Ao18 y138.length co18] rfl (by (try simp only [List.map_toArray, List.map_cons, List.map_nil]); first | done | rfl | (simp only [List.length_drop, List.length_take]; rfl)) ?_; (with_reducible refine (spec_NumberSame.calls _ _ t135 _ _ y138 false _ ?side1 ?side2 ?side3 ?side4 A2.out).mono ?_); (case side1 => repeat (first | exact (Kd.R_reads' HO137.out).2.2 | (with_reducible refine Kd.C_alloc ?_ _) | (with_reducible refine Kd.C_drewN ?_ _) | (with_reducible refine Kd.C_drew ?_))); (case side2 => exact (Kd.R_reads' HO137.out).2.1); (case side3 => repeat (first | exact (Kd.R_reads' HO140.out).2.2 | (with_reducible refine Kd.C_alloc ?_ _) | (with_reducible refine Kd.C_drewN ?_ _) | (with_reducible refine Kd.C_drew ?_))); (case side4 => exact (Kd.R_reads' HO140.out).2.1); rintro e w' ⟨rfl, ⟨nd, rfl⟩⟩; refine ⟨_, rfl, ?_⟩))
    go_ret
    exact ⟨by first | rfl | (simp [errW_none, errW_some] <;> rfl) | (simp [*, errW_none, errW_some] <;> rfl), by repeat (first | (with_reducible first | exact HB.out | apply below_alloc | apply pw_below_drewN | apply below_drew1) | exact HB.out)⟩

/-! ### laws_numberOwn: function 24 -/
def laws_numberOwn.f (l0 : List Int) : Option (List Int) := (some (([] : List Int) : List Int)).bind fun y146 => (if y146.length + l0.length < 140737488355328 then (some (y146 ++ l0)) else (none))
set_option maxHeartbeats 8000000 in
set_option maxRecDepth 100000 in
theorem laws_numberOwn.calls (A0 : Option Addr) (c0 : Nat) (l0 : List Int) (r : List Int) (w : World) (hr0 : Kd.C (Kd.int .u8) w A0 l0.length l0) (hc0 : l0.length ≤ c0) (h : laws_numberOwn.f l0 = some r) :
    Calls Tryd.prog 24 #[.slice A0 l0.length c0] w fun e w' => ∃ v0_ : Value, e = .returned (v0_) ∧ Kd.R (Kd.int .u8) 5 w' w.heap.size (fun _ => True) v0_ r ∧ Below w.heap.size w w' := by
  have HR0 := Aside0.mk hr0
  have HC0 := Aside0.mk hc0
  clear hr0 hc0
  have HB := Aside0.mk (Below.refl w.heap.size w)
  have H : ((some (([] : List Int) : List Int)).bind fun y146 => (if y146.length + l0.length < 140737488355328 then (some (y146 ++ l0)) else (none))) = some r := h
  clear h
  obtain ⟨y146, hy146⟩ : ∃ y_ : List Int, y_ = (([] : List Int)) := ⟨_, rfl⟩
  replace H : (if y146.length + l0.length < 140737488355328 then (some (y146 ++ l0)) else (none)) = some r := by first | (rw [hy146]; with_reducible exact H) | (have H2_ := (Option.bind_some _ _).symm.trans H; rw [hy146]; with_reducible exact H2_) | (have H2_ := (Option.bind_some _ _).symm.trans H; with_reducible exact H2_) | with_reducible exact H | (rw [hy146]; exact H) | exact H
  have Ny146 := Aside0.mk hy146
  clear hy146
  by_cases c2 : y146.length + l0.length < 140737488355328
  · rw [if_pos c2] at H
    have LMc2 := Aside0.mk c2
    clear c2
    obtain ⟨y149, hy149⟩ : ∃ y_ : List Int, y_ = (y146 ++ l0) := ⟨_, rfl⟩
    replace H : (some y149) = some r := by first | (rw [hy149]; with_reducible exact H) | (have H2_ := (Option.bind_some _ _).symm.trans H; rw [hy149]; with_reducible exact H2_) | (have H2_ := (Option.bind_some _ _).symm.trans H; with_reducible exact H2_) | with_reducible exact H | (rw [hy149]; exact H) | exact H
    have Ny149 := Aside0.mk hy149
    clear hy149
    obtain rfl := Option.some.inj H
    go_enter Tryd.func24, Tryd.ntmps24
    go_wp2_with (first | ((with_reducible refine gate_dst (N := 3) rfl ?_); refine Kd.R_lit (Kd.int .u8) _ 5 ?hg (N := 3) ?hd (xs := ([] : List Int)) (inner := []) (ok := fun _ => True) (okp := fun _ => True) ?hr ?hp (fun _ hk => hk) trivial (Below.refl _ _) (Nat.le_refl _) (by simp) ?_; (case hd => rfl); (case hg => rfl); (case hr => first | (go_simp; done) | (go_simp; rfl)); (case hp => exact (Reps.none _ _)); intro v147 w3 ho4 hb hg_ hnew_; clear hg_ hnew_; (first | rw [← Ny146.out] at ho4 | (simp only [Int.reduceToNat] at ho4; rw [← Ny146.out] at ho4)); have n0_ := Aside0.mk (Kd.R_lower ho4 (below_size (by repeat (first | (with_reducible first | exact HB.out | apply below_alloc | apply pw_below_drewN | apply below_drew1) | exact HB.out)))); have n1_ := Aside0.mk (below_step (by repeat (first | (with_reducible first | exact HB.out | apply below_alloc | apply pw_below_drewN | apply below_drew1) | exact HB.out)) hb); clear HB; have HO148 := n0_; have HB := n1_; clear n0_ n1_; clear hb ho4) | ((with_reducible refine gate_builtin (b := .append) (xs := #[.tmp 3, .tmp 4]) rfl ?_); at_builtin; refine Kd.R_append_rows (Kd.int .u8) (w0 := w) w.heap.size rfl (.tmp 3) (.tmp 4) 22 5 (.int .u8 0) 1 rfl Tryd.underlying22 info5 rfl (by decide) (by omega) v147 y146 l0 _ _ _ (fun _ => True) (fun _ => False) rfl rfl ?aO ?aR (fun _ _ h => h) (fun _ h => h.elim) ?aF ?aB ?aS ?aL ?_; (case aR => repeat (first | exact (Kd.C_below HR0.out HB.out) | (with_reducible refine Kd.C_alloc ?_ _) | (with_reducible refine Kd.C_drewN ?_ _) | (with_reducible refine Kd.C_drew ?_))); (case aB => exact (by repeat (first | (with_reducible first | exact HB.out | apply below_alloc | apply pw_below_drewN | apply below_drew1) | exact HB.out))); (case aF => exact (fun _ _ => trivial)); (case aO => exact (by (with_reducible repeat (first | apply Kd.R_alloc | apply Kd.R_drewN | apply Kd.R_drew)); exact HO148.out)); (case aS => exact (below_size (by repeat (first | (with_reducible first | exact HB.out | apply below_alloc | apply pw_below_drewN | apply below_drew1) | exact HB.out)))); (case aL => have := LMc2.out; omega); intro v150 w5 ho hb hg hat; rw [← Ny149.out] at ho; have n0_ := Aside0.mk (hb); have n1_ := Aside0.mk (ho); clear HB; clear HO148; have HB := n0_; have HO151 := n1_; clear n0_ n1_; clear ho hb hg hat))
    go_ret
    exact ⟨_, by first | rfl | (simp [errW_none, errW_some] <;> rfl) | (simp [*, errW_none, errW_some] <;> rfl), by (with_reducible repeat (first | apply Kd.R_alloc | apply Kd.R_drewN | apply Kd.R_drew)); exact HO151.out, by repeat (first | (with_reducible first | exact HB.out | apply below_alloc | apply pw_below_drewN | apply below_drew1) | exact HB.out)⟩
  · rw [if_neg c2] at H
    exact absurd H (by simp)

-- GIVEN: function 38 (converters_EncodeUint64)

/-! ### impl_NumberOfUint64: function 28 -/
def impl_NumberOfUint64.f (a0 : Int) : Option (List Int) := (converters_EncodeUint64.f a0).bind fun t152 => (some t152)
set_option maxHeartbeats 8000000 in
set_option maxRecDepth 100000 in
theorem impl_NumberOfUint64.calls (a0 : Int) (r : List Int) (w : World) (h : impl_NumberOfUint64.f a0 = some r) (htab : Tab w) :
    Calls Tryd.prog 28 #[.int .u64 a0] w fun e w' => ∃ v0_ : Value, e = .returned (v0_) ∧ Kd.R (Kd.int .u8) 5 w' w.heap.size (fun _ => True) v0_ r ∧ Below w.heap.size w w' := by
  have HT := Aside0.mk (tab_all htab)
  clear htab
  have HB := Aside0.mk (Below.refl w.heap.size w)
  have H : ((converters_EncodeUint64.f a0).bind fun t152 => (some t152)) = some r := h
  clear h
  replace H := Option.bind_eq_some_iff.mp H
  obtain ⟨t152, A20, H⟩ := H
  replace H : (some t152) = some r := H
  have A2 := Aside0.mk A20
  clear A20
  obtain rfl := Option.some.inj H
  go_enter Tryd.func28, Tryd.ntmps28
  go_wp2_with (first | ((with_reducible refine gate_callee (f := 38) rfl ?_); refine goesL_ (some 4) rfl rfl Tryd.func38 (by kernel_rfl) rfl #[.int .u64 a0] rfl (by (try simp only [List.map_toArray, List.map_cons, List.map_nil]); first | done | rfl | (simp only [List.length_drop, List.length_take]; rfl)) ?_; (with_reducible refine (converters_EncodeUint64.calls a0 t152 _ A2.out ?side99).mono ?_); (case side99 => exact HT.out _ (by repeat (first | (with_reducible first | exact HB.out | apply below_alloc | apply pw_below_drewN | apply below_drew1) | exact HB.out))); rintro e w3 ⟨v153, rfl, ho0, hb⟩; refine ⟨_, rfl, ?_⟩; have n0_ := Aside0.mk (Kd.R_lower ho0 (below_size (by repeat (first | (with_reducible first | exact HB.out | apply below_alloc | apply pw_below_drewN | apply below_drew1) | exact HB.out)))); have n1_ := Aside0.mk (below_step (by repeat (first | (with_reducible first | exact HB.out | apply below_alloc | apply pw_below_drewN | apply below_drew1) | exact HB.out)) hb); clear HB; have HO154 := n0_; have HB := n1_; clear n0_ n1_; (try clear hb); (try clear hb2); (try clear hk); (try clear hi); (try clear ho0)))
  go_ret
  exact ⟨_, by first | rfl | (simp [errW_none, errW_some] <;> rfl) | (simp [*, errW_none, errW_some] <;> rfl), by (with_reducible repeat (first | apply Kd.R_alloc | apply Kd.R_drewN | apply Kd.R_drew)); exact HO154.out, by repeat (first | (with_reducible first | exact HB.out | apply below_alloc | apply pw_below_drewN | apply below_drew1) | exact HB.out)⟩

/-- A state of type 62 at block g of W; what its slices lead to came in by w0. -/
def IsS62 (w0 W : World) (g : Nat) (f0 : List Int) : Prop := ∃ A0 c0, W.heap[g]? = some (.cells #[.slice A0 f0.length c0] 62 (0, 0)) ∧ w0.heap.size ≤ g ∧ Kd.C (Kd.int .u8) w0 A0 f0.length f0
theorem IsS62.grown {w0 W : World} {g : Nat} {f0 : List Int} {W1 : World} {row : Option Nat} (h : IsS62 w0 W g f0) (hw : W.grownBy W1 row) (hne : some g ≠ row) : IsS62 w0 W1 g f0 := by
  obtain ⟨A0, c0, hb, hg, hr0⟩ := h
  exact ⟨A0, c0, blk_grown hb hw hne, hg, hr0⟩
theorem IsS62.own_neN {w0 W : World} {g : Nat} {f0 : List Int} {α : Type} {d : Kd α} {e : Nat} {base : Nat} {ok : Nat → Prop} {v : Value} {xs : List α} (h : IsS62 w0 W g f0) (ho : Kd.N d e W base ok v xs) (ht : e ≠ 62) : some g ≠ v.ownBlock := by
  obtain ⟨A0, c0, hb, hg, hr0⟩ := h
  exact Kd.N_ne ho hb ht
theorem IsS62.fresh {w0 W : World} {g : Nat} {f0 : List Int} (h : IsS62 w0 W g f0) : ∀ k, W.heap.size ≤ k → k ≠ g := by
  obtain ⟨A0, c0, hb, hg, hr0⟩ := h
  exact Kd.freshB hb
theorem IsS62.kept {w0 W : World} {g : Nat} {f0 : List Int} {W1 : World} {S : Nat → Prop} (h : IsS62 w0 W g f0) (hk : Kept W W1 S) (hne : ¬ S g) : IsS62 w0 W1 g f0 := by
  obtain ⟨A0, c0, hb, hg, hr0⟩ := h
  exact ⟨A0, c0, blk_kept hb hk hne, hg, hr0⟩
theorem IsS62.below {w0 W : World} {g : Nat} {f0 : List Int} {W1 : World} (h : IsS62 w0 W g f0) (hw : Below W.heap.size W W1) : IsS62 w0 W1 g f0 := h.grown (grown_of_below hw none) (by simp)
theorem IsS62.alloc {w0 W : World} {g : Nat} {f0 : List Int} (h : IsS62 w0 W g f0) (o : Obj) : IsS62 w0 (W.alloc o) g f0 := h.below (below_alloc (Below.refl _ _) o)
theorem IsS62.drewN {w0 W : World} {g : Nat} {f0 : List Int} (h : IsS62 w0 W g f0) (m : Nat) : IsS62 w0 (W.drewN m) g f0 := h
theorem IsS62.drew {w0 W : World} {g : Nat} {f0 : List Int} (h : IsS62 w0 W g f0) : IsS62 w0 W.drew g f0 := h
theorem IsS62.at_ {w0 W : World} {g : Nat} {f0 : List Int} {w' : World} {m : Nat} (hq : W.drewN m = w') (h : IsS62 w0 W g f0) : IsS62 w0 w' g f0 := by subst hq; exact IsS62.drewN h m
theorem IsS62.apart {w0 W : World} {g : Nat} {f0 : List Int} {α : Type} {d : Kd α} {e : Nat} {base : Nat} {ok : Nat → Prop} {v : Value} {xs : List α} (h : IsS62 w0 W g f0) (ho : d.R e W base ok v xs) (ht : ∀ q, q ∈ e :: d.E → q ≠ 62) : d.R e W base (fun k => ok k ∧ k ≠ g) v xs := by
  obtain ⟨A0, c0, hb, hg, hr0⟩ := h
  exact Kd.R_types ho hb ht
theorem IsS62.own_ne {w0 W : World} {g : Nat} {f0 : List Int} {α : Type} {d : Kd α} {e : Nat} {base : Nat} {ok : Nat → Prop} {v : Value} {xs : List α} (h : IsS62 w0 W g f0) (ho : d.R e W base ok v xs) (ht : e ≠ 62) : some g ≠ v.ownBlock := by
  obtain ⟨A0, c0, hb, hg, hr0⟩ := h
  exact Kd.R_ne ho hb ht
theorem IsS62.apartQ {w0 W : World} {g : Nat} {f0 : List Int} {α : Type} {d : Kd α} {e : Nat} {base : Nat} {ok : Nat → Prop} {v : Value} {xs : List α} (h : IsS62 w0 W g f0) (ho : d.Q e W base ok v xs) (ht : ∀ q, q ∈ e :: d.E → q ≠ 62) : d.Q e W base (fun k => ok k ∧ k ≠ g) v xs := by
  obtain ⟨A0, c0, hb, hg, hr0⟩ := h
  exact Kd.Q_types ho hb ht
theorem IsS62.own_neQ {w0 W : World} {g : Nat} {f0 : List Int} {α : Type} {d : Kd α} {e : Nat} {base : Nat} {ok : Nat → Prop} {v : Value} {xs : List α} (h : IsS62 w0 W g f0) (ho : d.Q e W base ok v xs) (ht : e ≠ 62) : some g ≠ v.ownBlock := by
  obtain ⟨A0, c0, hb, hg, hr0⟩ := h
  exact Kd.Q_ne ho hb ht
theorem IsS62.apartS {w0 W : World} {g : Nat} {f0 : List Int} {α : Type} {d : Kd α} {e : Nat} {base : Nat} {ok : Nat → Prop} {v : Value} {xs : List α} (h : IsS62 w0 W g f0) (ho : d.S e W base ok v xs) (ht : ∀ q, q ∈ e :: d.E → q ≠ 62) : d.S e W base (fun k => ok k ∧ k ≠ g) v xs := by
  obtain ⟨A0, c0, hb, hg, hr0⟩ := h
  exact Kd.S_types ho hb ht
theorem IsS62.own_neS {w0 W : World} {g : Nat} {f0 : List Int} {α : Type} {d : Kd α} {e : Nat} {base : Nat} {ok : Nat → Prop} {v : Value} {xs : List α} (h : IsS62 w0 W g f0) (ho : d.S e W base ok v xs) (ht : e ≠ 62) : some g ≠ v.ownBlock := by
  obtain ⟨A0, c0, hb, hg, hr0⟩ := h
  exact Kd.S_ne ho hb ht
theorem IsS62.lt {w0 W : World} {g : Nat} {f0 : List Int} (h : IsS62 w0 W g f0) : g < W.heap.size := by
  obtain ⟨A0, c0, hb, hg, hr0⟩ := h
  exact blk_lt hb
theorem IsS62.ge {w0 W : World} {g : Nat} {f0 : List Int} (h : IsS62 w0 W g f0) : w0.heap.size ≤ g := by
  obtain ⟨A0, c0, hb, hg, hr0⟩ := h
  exact hg
theorem IsS62.ne_blk {w0 W : World} {g : Nat} {f0 : List Int} {a : Nat} {cs : Array Value} {t : TypeId} {fr : Nat × Nat} (h : IsS62 w0 W g f0) (hb2 : W.heap[a]? = some (.cells cs t fr)) (ht : t ≠ 62) : g ≠ a := by
  obtain ⟨A0, c0, hb, hg, hr0⟩ := h
  rintro rfl
  rw [hb] at hb2
  injection hb2 with hb2
  injection hb2 with _ ht2
  exact ht ht2.symm
theorem IsS62.far {w0 W : World} {g : Nat} {f0 : List Int} {p : Addr} (h : IsS62 w0 W g f0) (hne : g ≠ p.block) (u : Value) : IsS62 w0 (W.setCell p u) g f0 := by
  obtain ⟨A0, c0, hb, hg, hr0⟩ := h
  exact ⟨A0, c0, blk_far hb hne u, hg, hr0⟩
theorem cellS62_0 {W : World} {g : Nat} {A0 : Option Addr} {c0 : Nat} {f0 : List Int} (h : W.heap[g]? = some (.cells #[.slice A0 f0.length c0] 62 (0, 0))) : W.cell? ⟨g, 0, none⟩ = some (.slice A0 f0.length c0) := (blk_cell h 0).trans rfl
theorem IsS62.new (w0 W : World) (A0 : Option Addr) (c0 : Nat) (f0 : List Int) (hB : Below w0.heap.size w0 W) (hr0 : Kd.C (Kd.int .u8) w0 A0 f0.length f0) : IsS62 w0 (W.alloc (.cells #[.slice A0 f0.length c0] 62)) W.heap.size f0 := ⟨A0, c0, by simpa using heap_alloc_new W _, hB.size, hr0⟩

/-! ### converters_NewNumber: function 39 -/
def converters_NewNumber.f (l0 : List Int) : Option (List Int) := some l0
set_option maxHeartbeats 8000000 in
set_option maxRecDepth 100000 in
theorem converters_NewNumber.calls (A0 : Option Addr) (c0 : Nat) (l0 : List Int) (r : List Int) (w0 w : World) (hB : Below w0.heap.size w0 w) (hr0 : Kd.C (Kd.int .u8) w0 A0 l0.length l0) (hc0 : l0.length ≤ c0) (h : converters_NewNumber.f l0 = some r) :
    Calls Tryd.prog 39 #[.slice A0 l0.length c0] w fun e w' => ∃ g_ : Nat, e = .returned (.pointer (some ⟨g_, 0, none⟩)) ∧ IsS62 w0 w' g_ r ∧ Below w0.heap.size w0 w' ∧ Below w.heap.size w w' := by
  have hu62 := Tryd.underlying62
  have HR0 := Aside0.mk hr0
  have HC0 := Aside0.mk hc0
  clear hr0 hc0
  have HBW := Aside0.mk (Below.refl w.heap.size w)
  have HW0 := Aside0.mk hB.size
  have HB := Aside0.mk hB
  clear hB
  have H : (some l0) = some r := h
  clear h
  obtain rfl := Option.some.inj H
  go_enter Tryd.func39, Tryd.ntmps39
  go_wp2_with (first | ((with_reducible refine gate_dst (N := 5) rfl ?_); refine box_event ?hg (N := 5) ?hd (cs := #[.slice A0 l0.length c0]) (t := 62) ?hr ?_; (case hd => rfl); (case hg => rfl); (case hr => first | (go_simp; done) | (go_simp; rfl)); intro gb155 hg w2 hbox hb; have n0_ := Aside0.mk (below_step HBW.out hb); have n1_ := Aside0.mk (below_step (by repeat (first | (with_reducible first | exact HB.out | apply below_alloc | apply pw_below_drewN | apply below_drew1) | exact HB.out)) hb); have n2_ := Aside0.mk (hbox); have n3_ := Aside0.mk ((by rw [hg]; exact (below_size (by repeat (first | (with_reducible first | exact HBW.out | apply below_alloc | apply pw_below_drewN | apply below_drew1) | exact HBW.out))) : w.heap.size ≤ gb155)); have n4_ := Aside0.mk ((Nat.le_trans HW0.out (by rw [hg]; exact (below_size (by repeat (first | (with_reducible first | exact HBW.out | apply below_alloc | apply pw_below_drewN | apply below_drew1) | exact HBW.out))) : w.heap.size ≤ gb155) : w0.heap.size ≤ gb155)); clear HBW; clear HB; have HBW := n0_; have HB := n1_; have BK155 := n2_; have GW155 := n3_; have GE155 := n4_; clear n0_ n1_ n2_ n3_ n4_; clear hb hbox hg))
  go_ret
  exact ⟨_, rfl, (show IsS62 w0 _ gb155 l0 from ⟨_, _, by (with_reducible repeat (first | refine blk_drewN ?_ _ | refine blk_drew ?_ | refine blk_alloc ?_ _)); exact BK155.out, GE155.out, HR0.out⟩), by repeat (first | (with_reducible first | exact HB.out | apply below_alloc | apply pw_below_drewN | apply below_drew1 | refine below_set ?_ GE155.out) | exact HB.out), by repeat (first | (with_reducible first | exact HBW.out | apply below_alloc | apply pw_below_drewN | apply below_drew1 | refine below_set ?_ GW155.out) | exact HBW.out)⟩

-- GIVEN: function 46 (converters_compareBytes)

/-! ### converters__isZero: function 66 -/
def converters__isZero.f (l0 : List Int) : Option (Bool) := if 0 < (l0.length : Int) then (if (rd l0 0) = 128 then (some ((l0.length : Int) == 1)) else (some false)) else (none)
set_option maxHeartbeats 8000000 in
set_option maxRecDepth 100000 in
theorem converters__isZero.calls (A0 : Option Addr) (c0 : Nat) (l0 : List Int) (r : Bool) (w : World) (hr0 : Kd.C (Kd.int .u8) w A0 l0.length l0) (hc0 : l0.length ≤ c0) (h : converters__isZero.f l0 = some r) :
    Calls Tryd.prog 66 #[.slice A0 l0.length c0] w fun e w' => e = .returned (.bool r) ∧ Drawn0 w w' := by
  have HR0 := Aside0.mk hr0
  have HC0 := Aside0.mk hc0
  clear hr0 hc0
  have H : (if 0 < (l0.length : Int) then (if (rd l0 0) = 128 then (some ((l0.length : Int) == 1)) else (some false)) else (none)) = some r := h
  clear h
  by_cases c2 : 0 < (l0.length : Int)
  · rw [if_pos c2] at H
    have c2b0 : decide (0 < (l0.length : Int)) = true := decide_eq_true c2
    have c2b1 : decide (0 < l0.length) = true := decide_eq_true (by omega)
    clear c2
    by_cases c3 : (rd l0 0) = 128
    · rw [if_pos c3] at H
      have c3b0 : ((rd l0 0) == 128) = true := beq_iff_eq.mpr c3
      have c3b1 : ((rd l0 0) != 128) = false := bne_eq_false_iff_eq.mpr c3
      clear c3
      obtain rfl := Option.some.inj H
      have p156 : 0 ≤ (0 : Int) := (by omega)
      have q156 : 0 < (l0.length : Int) := of_decide_eq_true (by first | (with_reducible assumption) | assumption)
      obtain ⟨ad156, e156, hx156_0⟩ := Kd.at_int HR0.out 0 p156 q156
      cases e156
      have qi156 : (0 < l0.length) = True := eq_true (by omega)
      (try rw [show ((0 : Int)).toNat = 0 from rfl] at hx156_0)
      (try rw [Addr.add_zero'] at hx156_0)
      replace p156 := eq_true p156
      replace q156 := eq_true q156
      go_enter Tryd.func66, Tryd.ntmps66
      go_wp2
      go_ret
      exact ⟨by first | rfl | (simp; done) | (simp [*]; done), by repeat (first | exact Drawn0.refl _ | apply Drawn0.step)⟩
    · rw [if_neg c3] at H
      have c3b0 : ((rd l0 0) == 128) = false := beq_eq_false_iff_ne.mpr c3
      have c3b1 : ((rd l0 0) != 128) = true := bne_iff_ne.mpr c3
      obtain rfl := Option.some.inj H
      have p156 : 0 ≤ (0 : Int) := (by omega)
      have q156 : 0 < (l0.length : Int) := of_decide_eq_true (by first | (with_reducible assumption) | assumption)
      obtain ⟨ad156, e156, hx156_0⟩ := Kd.at_int HR0.out 0 p156 q156
      cases e156
      have qi156 : (0 < l0.length) = True := eq_true (by omega)
      (try rw [show ((0 : Int)).toNat = 0 from rfl] at hx156_0)
      (try rw [Addr.add_zero'] at hx156_0)
      replace p156 := eq_true p156
      replace q156 := eq_true q156
      go_enter Tryd.func66, Tryd.ntmps66
      go_wp2
      go_ret
      exact ⟨by first | rfl | (simp; done) | (simp [*]; done), by repeat (first | exact Drawn0.refl _ | apply Drawn0.step)⟩
  · rw [if_neg c2] at H
    exact absurd H (by simp)

/-! ### converters__isInf: function 67 -/
def converters__isInf.f (l0 : List Int) : Option (Bool) := if (l0.length : Int) = 2 then (if 0 < (l0.length : Int) then (if (rd l0 0) = 255 then (if 1 < (l0.length : Int) then (if (rd l0 1) = 101 then (some true) else (if (rd l0 0) = 0 then (if (l0.length : Int) = 1 then (some true) else (some false)) else (some false))) else (none)) else (if (rd l0 0) = 0 then (if (l0.length : Int) = 1 then (some true) else (some false)) else (some false))) else (none)) else (if 0 < (l0.length : Int) then (if (rd l0 0) = 0 then (if (l0.length : Int) = 1 then (some true) else (some false)) else (some false)) else (none))
set_option maxHeartbeats 8000000 in
set_option maxRecDepth 100000 in
theorem converters__isInf.calls (A0 : Option Addr) (c0 : Nat) (l0 : List Int) (r : Bool) (w : World) (hr0 : Kd.C (Kd.int .u8) w A0 l0.length l0) (hc0 : l0.length ≤ c0) (h : converters__isInf.f l0 = some r) :
    Calls Tryd.prog 67 #[.slice A0 l0.length c0] w fun e w' => e = .returned (.bool r) ∧ Drawn0 w w' := by
  have HR0 := Aside0.mk hr0
  have HC0 := Aside0.mk hc0
  clear hr0 hc0
  have H : (if (l0.length : Int) = 2 then (if 0 < (l0.length : Int) then (if (rd l0 0) = 255 then (if 1 < (l0.length : Int) then (if (rd l0 1) = 101 then (some true) else (if (rd l0 0) = 0 then (if (l0.length : Int) = 1 then (some true) else (some false)) else (some false))) else (none)) else (if (rd l0 0) = 0 then (if (l0.length : Int) = 1 then (some true) else (some false)) else (some false))) else (none)) else (if 0 < (l0.length : Int) then (if (rd l0 0) = 0 then (if (l0.length : Int) = 1 then (some true) else (some false)) else (some false)) else (none))) = some r := h
  clear h
  by_cases c2 : (l0.length : Int) = 2
  · rw [if_pos c2] at H
    have c2b0 : ((l0.length : Int) == 2) = true := beq_iff_eq.mpr c2
    have c2b1 : ((l0.length : Int) != 2) = false := bne_eq_false_iff_eq.mpr c2
    clear c2
    by_cases c3 : 0 < (l0.length : Int)
    · rw [if_pos c3] at H
      have c3b0 : decide (0 < (l0.length : Int)) = true := decide_eq_true c3
      have c3b1 : decide (0 < l0.length) = true := decide_eq_true (by omega)
      clear c3
      by_cases c4 : (rd l0 0) = 255
      · rw [if_pos c4] at H
        have c4b0 : ((rd l0 0) == 255) = true := beq_iff_eq.mpr c4
        have c4b1 : ((rd l0 0) != 255) = false := bne_eq_false_iff_eq.mpr c4
        clear c4
        by_cases c5 : 1 < (l0.length : Int)
        · rw [if_pos c5] at H
          have c5b0 : decide (1 < (l0.length : Int)) = true := decide_eq_true c5
          have c5b1 : decide (1 < l0.length) = true := decide_eq_true (by omega)
          clear c5
          by_cases c6 : (rd l0 1) = 101
          · rw [if_pos c6] at H
            have c6b0 : ((rd l0 1) == 101) = true := beq_iff_eq.mpr c6
            have c6b1 : ((rd l0 1) != 101) = false := bne_eq_false_iff_eq.mpr c6
            clear c6
            obtain rfl := Option.some.inj H
            have p157 : 0 ≤ (0 : Int) := (by omega)
            have q157 : 0 < (l0.length : Int) := of_decide_eq_true (by first | (with_reducible assumption) | assumption)
            obtain ⟨ad157, e157, hx157_0⟩ := Kd.at_int HR0.out 0 p157 q157
            cases e157
            have qi157 : (0 < l0.length) = True := eq_true (by omega)
            (try rw [show ((0 : Int)).toNat = 0 from rfl] at hx157_0)
            (try rw [Addr.add_zero'] at hx157_0)
            replace p157 := eq_true p157
            replace q157 := eq_true q157
            have p158 : 0 ≤ (1 : Int) := (by omega)
            have q158 : 1 < (l0.length : Int) := of_decide_eq_true (by first | (with_reducible assumption) | assumption)
            obtain ⟨ad158, e158, hx158_0⟩ := Kd.at_int HR0.out 1 p158 q158
            obtain rfl : ad157 = ad158 := (by injection e158)
            (try simp only [show (1 : Int).toNat = 1 from rfl, Nat.reduceMul, Nat.reduceEqDiff, Go.Addr.add, ↓reduceIte] at hx158_0)
            have qi158 : (1 < l0.length) = True := eq_true (by omega)
            (try rw [show ((1 : Int)).toNat = 1 from rfl] at hx158_0)
            replace p158 := eq_true p158
            replace q158 := eq_true q158
            go_enter Tryd.func67, Tryd.ntmps67
            go_wp2
            go_ret
            exact ⟨by first | rfl | (simp; done) | (simp [*]; done), by repeat (first | exact Drawn0.refl _ | apply Drawn0.step)⟩
          · rw [if_neg c6] at H
            have c6b0 : ((rd l0 1) == 101) = false := beq_eq_false_iff_ne.mpr c6
            have c6b1 : ((rd l0 1) != 101) = true := bne_iff_ne.mpr c6
            by_cases c7 : (rd l0 0) = 0
            · rw [if_pos c7] at H
              have c7b0 : ((rd l0 0) == 0) = true := beq_iff_eq.mpr c7
              have c7b1 : ((rd l0 0) != 0) = false := bne_eq_false_iff_eq.mpr c7
              clear c7
              by_cases c8 : (l0.length : Int) = 1
              · rw [if_pos c8] at H
                have c8b0 : ((l0.length : Int) == 1) = true := beq_iff_eq.mpr c8
                have c8b1 : ((l0.length : Int) != 1) = false := bne_eq_false_iff_eq.mpr c8
                clear c8
                obtain rfl := Option.some.inj H
                have p157 : 0 ≤ (0 : Int) := (by omega)
                have q157 : 0 < (l0.length : Int) := of_decide_eq_true (by first | (with_reducible assumption) | assumption)
                obtain ⟨ad157, e157, hx157_0⟩ := Kd.at_int HR0.out 0 p157 q157
                cases e157
                have qi157 : (0 < l0.length) = True := eq_true (by omega)
                (try rw [show ((0 : Int)).toNat = 0 from rfl] at hx157_0)
                (try rw [Addr.add_zero'] at hx157_0)
                replace p157 := eq_true p157
                replace q157 := eq_true q157
                have p158 : 0 ≤ (1 : Int) := (by omega)
                have q158 : 1 < (l0.length : Int) := of_decide_eq_true (by first | (with_reducible assumption) | assumption)
                obtain ⟨ad158, e158, hx158_0⟩ := Kd.at_int HR0.out 1 p158 q158
                obtain rfl : ad157 = ad158 := (by injection e158)
                (try simp only [show (1 : Int).toNat = 1 from rfl, Nat.reduceMul, Nat.reduceEqDiff, Go.Addr.add, ↓reduceIte] at hx158_0)
                have qi158 : (1 < l0.length) = True := eq_true (by omega)
                (try rw [show ((1 : Int)).toNat = 1 from rfl] at hx158_0)
                replace p158 := eq_true p158
                replace q158 := eq_true q158
                have p159 : 0 ≤ (0 : Int) := (by omega)
                have q159 : 0 < (l0.length : Int) := of_decide_eq_true (by first | (with_reducible assumption) | assumption)
                obtain ⟨ad159, e159, hx159_0⟩ := Kd.at_int HR0.out 0 p159 q159
                obtain rfl : ad157 = ad159 := (by injection e159)
                have qi159 : (0 < l0.length) = True := eq_true (by omega)
                (try rw [show ((0 : Int)).toNat = 0 from rfl] at hx159_0)
                (try rw [Addr.add_zero'] at hx159_0)
                replace p159 := eq_true p159
                replace q159 := eq_true q159
                go_enter Tryd.func67, Tryd.ntmps67
                go_wp2
                go_ret
                exact ⟨by first | rfl | (simp; done) | (simp [*]; done), by repeat (first | exact Drawn0.refl _ | apply Drawn0.step)⟩
              · rw [if_neg c8] at H
                have c8b0 : ((l0.length : Int) == 1) = false := beq_eq_false_iff_ne.mpr c8
                have c8b1 : ((l0.length : Int) != 1) = true := bne_iff_ne.mpr c8
                obtain rfl := Option.some.inj H
                have p157 : 0 ≤ (0 : Int) := (by omega)
                have q157 : 0 < (l0.length : Int) := of_decide_eq_true (by first | (with_reducible assumption) | assumption)
                obtain ⟨ad157, e157, hx157_0⟩ := Kd.at_int HR0.out 0 p157 q157
                cases e157
                have qi157 : (0 < l0.length) = True := eq_true (by omega)
                (try rw [show ((0 : Int)).toNat = 0 from rfl] at hx157_0)
                (try rw [Addr.add_zero'] at hx157_0)
                replace p157 := eq_true p157
                replace q157 := eq_true q157
                have p158 : 0 ≤ (1 : Int) := (by omega)
                have q158 : 1 < (l0.length : Int) := of_decide_eq_true (by first | (with_reducible assumption) | assumption)
                obtain ⟨ad158, e158, hx158_0⟩ := Kd.at_int HR0.out 1 p158 q158
                obtain rfl : ad157 = ad158 := (by injection e158)
                (try simp only [show (1 : Int).toNat = 1 from rfl, Nat.reduceMul, Nat.reduceEqDiff, Go.Addr.add, ↓reduceIte] at hx158_0)
                have qi158 : (1 < l0.length) = True := eq_true (by omega)
                (try rw [show ((1 : Int)).toNat = 1 from rfl] at hx158_0)
                replace p158 := eq_true p158
                replace q158 := eq_true q158
                have p159 : 0 ≤ (0 : Int) := (by omega)
                have q159 : 0 < (l0.length : Int) := of_decide_eq_true (by first | (with_reducible assumption) | assumption)
                obtain ⟨ad159, e159, hx159_0⟩ := Kd.at_int HR0.out 0 p159 q159
                obtain rfl : ad157 = ad159 := (by injection e159)
                have qi159 : (0 < l0.length) = True := eq_true (by omega)
                (try rw [show ((0 : Int)).toNat = 0 from rfl] at hx159_0)
                (try rw [Addr.add_zero'] at hx159_0)
                replace p159 := eq_true p159
                replace q159 := eq_true q159
                go_enter Tryd.func67, Tryd.ntmps67
                go_wp2
                go_ret
                exact ⟨by first | rfl | (simp; done) | (simp [*]; done), by repeat (first | exact Drawn0.refl _ | apply Drawn0.step)⟩
            · rw [if_neg c7] at H
              have c7b0 : ((rd l0 0) == 0) = false := beq_eq_false_iff_ne.mpr c7
              have c7b1 : ((rd l0 0) != 0) = true := bne_iff_ne.mpr c7
              obtain rfl := Option.some.inj H
              have p157 : 0 ≤ (0 : Int) := (by omega)
              have q157 : 0 < (l0.length : Int) := of_decide_eq_true (by first | (with_reducible assumption) | assumption)
              obtain ⟨ad157, e157, hx157_0⟩ := Kd.at_int HR0.out 0 p157 q157
              cases e157
              have qi157 : (0 < l0.length) = True := eq_true (by omega)
              (try rw [show ((0 : Int)).toNat = 0 from rfl] at hx157_0)
              (try rw [Addr.add_zero'] at hx157_0)
              replace p157 := eq_true p157
              replace q157 := eq_true q157
              have p158 : 0 ≤ (1 : Int) := (by omega)
              have q158 : 1 < (l0.length : Int) := of_decide_eq_true (by first | (with_reducible assumption) | assumption)
              obtain ⟨ad158, e158, hx158_0⟩ := Kd.at_int HR0.out 1 p158 q158
              obtain rfl : ad157 = ad158 := (by injection e158)
              (try simp only [show (1 : Int).toNat = 1 from rfl, Nat.reduceMul, Nat.reduceEqDiff, Go.Addr.add, ↓reduceIte] at hx158_0)
              have qi158 : (1 < l0.length) = True := eq_true (by omega)
              (try rw [show ((1 : Int)).toNat = 1 from rfl] at hx158_0)
              replace p158 := eq_true p158
              replace q158 := eq_true q158
              have p159 : 0 ≤ (0 : Int) := (by omega)
              have q159 : 0 < (l0.length : Int) := of_decide_eq_true (by first | (with_reducible assumption) | assumption)
              obtain ⟨ad159, e159, hx159_0⟩ := Kd.at_int HR0.out 0 p159 q159
              obtain rfl : ad157 = ad159 := (by injection e159)
              have qi159 : (0 < l0.length) = True := eq_true (by omega)
              (try rw [show ((0 : Int)).toNat = 0 from rfl] at hx159_0)
              (try rw [Addr.add_zero'] at hx159_0)
              replace p159 := eq_true p159
              replace q159 := eq_true q159
              go_enter Tryd.func67, Tryd.ntmps67
              go_wp2
              go_ret
              exact ⟨by first | rfl | (simp; done) | (simp [*]; done), by repeat (first | exact Drawn0.refl _ | apply Drawn0.step)⟩
        · rw [if_neg c5] at H
          exact absurd H (by simp)
      · rw [if_neg c4] at H
        have c4b0 : ((rd l0 0) == 255) = false := beq_eq_false_iff_ne.mpr c4
        have c4b1 : ((rd l0 0) != 255) = true := bne_iff_ne.mpr c4
        by_cases c9 : (rd l0 0) = 0
        · rw [if_pos c9] at H
          have c9b0 : ((rd l0 0) == 0) = true := beq_iff_eq.mpr c9
          have c9b1 : ((rd l0 0) != 0) = false := bne_eq_false_iff_eq.mpr c9
          clear c9
          by_cases c10 : (l0.length : Int) = 1
          · rw [if_pos c10] at H
            have c10b0 : ((l0.length : Int) == 1) = true := beq_iff_eq.mpr c10
            have c10b1 : ((l0.length : Int) != 1) = false := bne_eq_false_iff_eq.mpr c10
            clear c10
            obtain rfl := Option.some.inj H
            have p157 : 0 ≤ (0 : Int) := (by omega)
            have q157 : 0 < (l0.length : Int) := of_decide_eq_true (by first | (with_reducible assumption) | assumption)
            obtain ⟨ad157, e157, hx157_0⟩ := Kd.at_int HR0.out 0 p157 q157
            cases e157
            have qi157 : (0 < l0.length) = True := eq_true (by omega)
            (try rw [show ((0 : Int)).toNat = 0 from rfl] at hx157_0)
            (try rw [Addr.add_zero'] at hx157_0)
            replace p157 := eq_true p157
            replace q157 := eq_true q157
            have p160 : 0 ≤ (0 : Int) := (by omega)
            have q160 : 0 < (l0.length : Int) := of_decide_eq_true (by first | (with_reducible assumption) | assumption)
            obtain ⟨ad160, e160, hx160_0⟩ := Kd.at_int HR0.out 0 p160 q160
            obtain rfl : ad157 = ad160 := (by injection e160)
            have qi160 : (0 < l0.length) = True := eq_true (by omega)
            (try rw [show ((0 : Int)).toNat = 0 from rfl] at hx160_0)
            (try rw [Addr.add_zero'] at hx160_0)
            replace p160 := eq_true p160
            replace q160 := eq_true q160
            go_enter Tryd.func67, Tryd.ntmps67
            go_wp2
            go_ret
            exact ⟨by first | rfl | (simp; done) | (simp [*]; done), by repeat (first | exact Drawn0.refl _ | apply Drawn0.step)⟩
          · rw [if_neg c10] at H
            have c10b0 : ((l0.length : Int) == 1) = false := beq_eq_false_iff_ne.mpr c10
            have c10b1 : ((l0.length : Int) != 1) = true := bne_iff_ne.mpr c10
            obtain rfl := Option.some.inj H
            have p157 : 0 ≤ (0 : Int) := (by omega)
            have q157 : 0 < (l0.length : Int) := of_decide_eq_true (by first | (with_reducible assumption) | assumption)
            obtain ⟨ad157, e157, hx157_0⟩ := Kd.at_int HR0.out 0 p157 q157
            cases e157
            have qi157 : (0 < l0.length) = True := eq_true (by omega)
            (try rw [show ((0 : Int)).toNat = 0 from rfl] at hx157_0)
            (try rw [Addr.add_zero'] at hx157_0)
            replace p157 := eq_true p157
            replace q157 := eq_true q157
            have p160 : 0 ≤ (0 : Int) := (by omega)
            have q160 : 0 < (l0.length : Int) := of_decide_eq_true (by first | (with_reducible assumption) | assumption)
            obtain ⟨ad160, e160, hx160_0⟩ := Kd.at_int HR0.out 0 p160 q160
            obtain rfl : ad157 = ad160 := (by injection e160)
            have qi160 : (0 < l0.length) = True := eq_true (by omega)
            (try rw [show ((0 : Int)).toNat = 0 from rfl] at hx160_0)
            (try rw [Addr.add_zero'] at hx160_0)
            replace p160 := eq_true p160
            replace q160 := eq_true q160
            go_enter Tryd.func67, Tryd.ntmps67
            go_wp2
            go_ret
            exact ⟨by first | rfl | (simp; done) | (simp [*]; done), by repeat (first | exact Drawn0.refl _ | apply Drawn0.step)⟩
        · rw [if_neg c9] at H
          have c9b0 : ((rd l0 0) == 0) = false := beq_eq_false_iff_ne.mpr c9
          have c9b1 : ((rd l0 0) != 0) = true := bne_iff_ne.mpr c9
          obtain rfl := Option.some.inj H
          have p157 : 0 ≤ (0 : Int) := (by omega)
          have q157 : 0 < (l0.length : Int) := of_decide_eq_true (by first | (with_reducible assumption) | assumption)
          obtain ⟨ad157, e157, hx157_0⟩ := Kd.at_int HR0.out 0 p157 q157
          cases e157
          have qi157 : (0 < l0.length) = True := eq_true (by omega)
          (try rw [show ((0 : Int)).toNat = 0 from rfl] at hx157_0)
          (try rw [Addr.add_zero'] at hx157_0)
          replace p157 := eq_true p157
          replace q157 := eq_true q157
          have p160 : 0 ≤ (0 : Int) := (by omega)
          have q160 : 0 < (l0.length : Int) := of_decide_eq_true (by first | (with_reducible assumption) | assumption)
          obtain ⟨ad160, e160, hx160_0⟩ := Kd.at_int HR0.out 0 p160 q160
          obtain rfl : ad157 = ad160 := (by injection e160)
          have qi160 : (0 < l0.length) = True := eq_true (by omega)
          (try rw [show ((0 : Int)).toNat = 0 from rfl] at hx160_0)
          (try rw [Addr.add_zero'] at hx160_0)
          replace p160 := eq_true p160
          replace q160 := eq_true q160
          go_enter Tryd.func67, Tryd.ntmps67
          go_wp2
          go_ret
          exact ⟨by first | rfl | (simp; done) | (simp [*]; done), by repeat (first | exact Drawn0.refl _ | apply Drawn0.step)⟩
    · rw [if_neg c3] at H
      exact absurd H (by simp)
  · rw [if_neg c2] at H
    have c2b0 : ((l0.length : Int) == 2) = false := beq_eq_false_iff_ne.mpr c2
    have c2b1 : ((l0.length : Int) != 2) = true := bne_iff_ne.mpr c2
    by_cases c11 : 0 < (l0.length : Int)
    · rw [if_pos c11] at H
      have c11b0 : decide (0 < (l0.length : Int)) = true := decide_eq_true c11
      have c11b1 : decide (0 < l0.length) = true := decide_eq_true (by omega)
      clear c11
      by_cases c12 : (rd l0 0) = 0
      · rw [if_pos c12] at H
        have c12b0 : ((rd l0 0) == 0) = true := beq_iff_eq.mpr c12
        have c12b1 : ((rd l0 0) != 0) = false := bne_eq_false_iff_eq.mpr c12
        clear c12
        by_cases c13 : (l0.length : Int) = 1
        · rw [if_pos c13] at H
          have c13b0 : ((l0.length : Int) == 1) = true := beq_iff_eq.mpr c13
          have c13b1 : ((l0.length : Int) != 1) = false := bne_eq_false_iff_eq.mpr c13
          clear c13
          obtain rfl := Option.some.inj H
          have p161 : 0 ≤ (0 : Int) := (by omega)
          have q161 : 0 < (l0.length : Int) := of_decide_eq_true (by first | (with_reducible assumption) | assumption)
          obtain ⟨ad161, e161, hx161_0⟩ := Kd.at_int HR0.out 0 p161 q161
          cases e161
          have qi161 : (0 < l0.length) = True := eq_true (by omega)
          (try rw [show ((0 : Int)).toNat = 0 from rfl] at hx161_0)
          (try rw [Addr.add_zero'] at hx161_0)
          replace p161 := eq_true p161
          replace q161 := eq_true q161
          go_enter Tryd.func67, Tryd.ntmps67
          go_wp2
          go_ret
          exact ⟨by first | rfl | (simp; done) | (simp [*]; done), by repeat (first | exact Drawn0.refl _ | apply Drawn0.step)⟩
        · rw [if_neg c13] at H
          have c13b0 : ((l0.length : Int) == 1) = false := beq_eq_false_iff_ne.mpr c13
          have c13b1 : ((l0.length : Int) != 1) = true := bne_iff_ne.mpr c13
          obtain rfl := Option.some.inj H
          have p161 : 0 ≤ (0 : Int) := (by omega)
          have q161 : 0 < (l0.length : Int) := of_decide_eq_true (by first | (with_reducible assumption) | assumption)
          obtain ⟨ad161, e161, hx161_0⟩ := Kd.at_int HR0.out 0 p161 q161
          cases e161
          have qi161 : (0 < l0.length) = True := eq_true (by omega)
          (try rw [show ((0 : Int)).toNat = 0 from rfl] at hx161_0)
          (try rw [Addr.add_zero'] at hx161_0)
          replace p161 := eq_true p161
          replace q161 := eq_true q161
          go_enter Tryd.func67, Tryd.ntmps67
          go_wp2
          go_ret
          exact ⟨by first | rfl | (simp; done) | (simp [*]; done), by repeat (first | exact Drawn0.refl _ | apply Drawn0.step)⟩
      · rw [if_neg c12] at H
        have c12b0 : ((rd l0 0) == 0) = false := beq_eq_false_iff_ne.mpr c12
        have c12b1 : ((rd l0 0) != 0) = true := bne_iff_ne.mpr c12
        obtain rfl := Option.some.inj H
        have p161 : 0 ≤ (0 : Int) := (by omega)
        have q161 : 0 < (l0.length : Int) := of_decide_eq_true (by first | (with_reducible assumption) | assumption)
        obtain ⟨ad161, e161, hx161_0⟩ := Kd.at_int HR0.out 0 p161 q161
        cases e161
        have qi161 : (0 < l0.length) = True := eq_true (by omega)
        (try rw [show ((0 : Int)).toNat = 0 from rfl] at hx161_0)
        (try rw [Addr.add_zero'] at hx161_0)
        replace p161 := eq_true p161
        replace q161 := eq_true q161
        go_enter Tryd.func67, Tryd.ntmps67
        go_wp2
        go_ret
        exact ⟨by first | rfl | (simp; done) | (simp [*]; done), by repeat (first | exact Drawn0.refl _ | apply Drawn0.step)⟩
    · rw [if_neg c11] at H
      exact absurd H (by simp)

/-! ### converters__isPositive: function 79 -/
def converters__isPositive.f (l0 : List Int) : Option (Bool) := if 0 < (l0.length : Int) then (some ((Go.bits .and .u8 (rd l0 0) 128) != 0)) else (none)
set_option maxHeartbeats 8000000 in
set_option maxRecDepth 100000 in
theorem converters__isPositive.calls (A0 : Option Addr) (c0 : Nat) (l0 : List Int) (r : Bool) (w : World) (hr0 : Kd.C (Kd.int .u8) w A0 l0.length l0) (hc0 : l0.length ≤ c0) (h : converters__isPositive.f l0 = some r) :
    Calls Tryd.prog 79 #[.slice A0 l0.length c0] w fun e w' => e = .returned (.bool r) ∧ Drawn0 w w' := by
  have HR0 := Aside0.mk hr0
  have HC0 := Aside0.mk hc0
  clear hr0 hc0
  have H : (if 0 < (l0.length : Int) then (some ((Go.bits .and .u8 (rd l0 0) 128) != 0)) else (none)) = some r := h
  clear h
  by_cases c2 : 0 < (l0.length : Int)
  · rw [if_pos c2] at H
    have c2b0 : decide (0 < (l0.length : Int)) = true := decide_eq_true c2
    have c2b1 : decide (0 < l0.length) = true := decide_eq_true (by omega)
    clear c2
    obtain rfl := Option.some.inj H
    have p162 : 0 ≤ (0 : Int) := (by omega)
    have q162 : 0 < (l0.length : Int) := of_decide_eq_true (by first | (with_reducible assumption) | assumption)
    obtain ⟨ad162, e162, hx162_0⟩ := Kd.at_int HR0.out 0 p162 q162
    cases e162
    have qi162 : (0 < l0.length) = True := eq_true (by omega)
    (try rw [show ((0 : Int)).toNat = 0 from rfl] at hx162_0)
    (try rw [Addr.add_zero'] at hx162_0)
    replace p162 := eq_true p162
    replace q162 := eq_true q162
    go_enter Tryd.func79, Tryd.ntmps79
    go_wp2
    go_ret
    exact ⟨by first | rfl | (simp; done) | (simp [*]; done), by repeat (first | exact Drawn0.refl _ | apply Drawn0.step)⟩
  · rw [if_neg c2] at H
    exact absurd H (by simp)

end Go.Proofs.YtepooaejlofkkaaDoor.ZU
