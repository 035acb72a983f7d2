-- Written by a program of this session (wip/xprint.py), which calls the kit's print.
import Derived.Test.YtepooaejlofkkaaDoorZN0
import Derived.Test.YtepooaejlofkkaaDoorZN1
import Derived.Test.YtepooaejlofkkaaDoorZN2
import Derived.Test.YtepooaejlofkkaaDoorNum
namespace Go.Proofs.YtepooaejlofkkaaDoor.ZN
open Go.RowKit Go.Proofs.YtepooaejlofkkaaDoor.X Go.Proofs.YtepooaejlofkkaaDoorW.PrintWords Go.Proofs.YtepooaejlofkkaaDoorW.PrintLast Go.Proofs.YtepooaejlofkkaaDoorW.PrintMore
attribute [local go_sem] max2_int min2_int max_two min_two max_three min_three max_four min_four   -- for this text's walks alone
set_option linter.unusedVariables false
set_option linter.unusedSimpArgs false

/-! ### converters_DecodeInt: function 42 -/
mutual
def converters_DecodeInt.j0 : Nat → Int → Bool → Int → Bool → Option (Int)
  | 0, _, _, _, _ => none
  | k + 1, x3, x4, x5, x21 => if x21 = true then (some 0) else (converters_DecodeInt.l0 k x3 x4 x5)
def converters_DecodeInt.l0 : Nat → Int → Bool → Int → Option (Int)
  | 0, _, _, _ => none
  | k + 1, x3, x4, x5 => if x5 > 0 then (converters_DecodeInt.l0 k (IntKind.u64.wrap (x3 * 10)) x4 (wrap64 (x5 - 1))) else (if x4 = true then (if (x3 / 9223372036854775808) = 0 then (some (wrap64 (-(wrap64 (x3))))) else (some (wrap64 (x3)))) else (some (wrap64 (x3))))
end
def converters_DecodeInt.f (k : Nat) (l0 : List Int) : Option (Int) := (converters_FromNumber.f k l0).bind fun bt125 => (if bt125.2.2.2.2.isNone = true then (converters_DecodeInt.j0 k bt125.1 bt125.2.1 bt125.2.2.1 (decide (bt125.2.2.1 < 0))) else (converters_DecodeInt.j0 k bt125.1 bt125.2.1 bt125.2.2.1 true))
theorem converters_DecodeInt.mono_l : ∀ k, (∀ y0 y1 y2 y3, LeO (converters_DecodeInt.j0 k y0 y1 y2 y3) (converters_DecodeInt.j0 (k + 1) y0 y1 y2 y3)) ∧ (∀ y0 y1 y2, LeO (converters_DecodeInt.l0 k y0 y1 y2) (converters_DecodeInt.l0 (k + 1) y0 y1 y2))
  | 0 => ⟨fun _ _ _ _ r h => by simp [converters_DecodeInt.j0] at h, fun _ _ _ r h => by simp [converters_DecodeInt.l0] at h⟩
  | k + 1 => by
    obtain ⟨ih0, ih1⟩ := converters_DecodeInt.mono_l k
    refine ⟨?_, ?_⟩
    · intro y0 y1 y2 y3
      unfold converters_DecodeInt.j0
      repeat' first
      | (with_reducible exact ih0 _ _ _ _)
      | (with_reducible exact ih1 _ _ _)
      | (with_reducible exact converters_FromNumber.mono _ _)
      | (with_reducible exact LeO.refl _)
      | (with_reducible exact LeO.none _)
      | (with_reducible refine LeO.ite ?_ ?_)
      | (with_reducible refine LeO.bind ?_ (fun _ => ?_))
      | exact ih0 _ _ _ _
      | exact ih1 _ _ _
      | exact converters_FromNumber.mono _ _
      | exact LeO.none _
      | refine LeO.ite ?_ ?_
      | refine LeO.bind ?_ (fun _ => ?_)
    · intro y0 y1 y2
      unfold converters_DecodeInt.l0
      repeat' first
      | (with_reducible exact ih0 _ _ _ _)
      | (with_reducible exact ih1 _ _ _)
      | (with_reducible exact converters_FromNumber.mono _ _)
      | (with_reducible exact LeO.refl _)
      | (with_reducible exact LeO.none _)
      | (with_reducible refine LeO.ite ?_ ?_)
      | (with_reducible refine LeO.bind ?_ (fun _ => ?_))
      | exact ih0 _ _ _ _
      | exact ih1 _ _ _
      | exact converters_FromNumber.mono _ _
      | exact LeO.none _
      | refine LeO.ite ?_ ?_
      | refine LeO.bind ?_ (fun _ => ?_)
theorem converters_DecodeInt.mono : ∀ a0 k, LeO (converters_DecodeInt.f k a0) (converters_DecodeInt.f (k + 1) a0) := by
  intro a0 k
  obtain ⟨ih0, ih1⟩ := converters_DecodeInt.mono_l k
  unfold converters_DecodeInt.f
  repeat' first
      | (with_reducible exact ih0 _ _ _ _)
      | (with_reducible exact ih1 _ _ _)
      | (with_reducible exact converters_FromNumber.mono _ _)
      | (with_reducible exact LeO.refl _)
      | (with_reducible exact LeO.none _)
      | (with_reducible refine LeO.ite ?_ ?_)
      | (with_reducible refine LeO.bind ?_ (fun _ => ?_))
      | exact ih0 _ _ _ _
      | exact ih1 _ _ _
      | exact converters_FromNumber.mono _ _
      | exact LeO.none _
      | refine LeO.ite ?_ ?_
      | refine LeO.bind ?_ (fun _ => ?_)
set_option maxHeartbeats 8000000 in
set_option maxRecDepth 100000 in
theorem converters_DecodeInt.calls (k : Nat) (A0 : Option Addr) (c0 : Nat) (l0 : List Int) (r : Int) (w : World) (hr0 : Kd.C (Kd.int .u8) w A0 l0.length l0) (hc0 : l0.length ≤ c0) (h : converters_DecodeInt.f k l0 = some r) :
    Calls Tryd.prog 42 #[.slice A0 l0.length c0] w fun e w' => e = .returned (.int .i64 r) ∧ Below w.heap.size w w' := by
  have hu50 := Tryd.underlying50
  have HR0 := Aside0.mk hr0
  have HC0 := Aside0.mk hc0
  clear hr0 hc0
  have HB := Aside0.mk (Below.refl w.heap.size w)
  have H : ((converters_FromNumber.f k l0).bind fun bt125 => (if bt125.2.2.2.2.isNone = true then (converters_DecodeInt.j0 k bt125.1 bt125.2.1 bt125.2.2.1 (decide (bt125.2.2.1 < 0))) else (converters_DecodeInt.j0 k bt125.1 bt125.2.1 bt125.2.2.1 true))) = some r := h
  clear h
  replace H := Option.bind_eq_some_iff.mp H
  obtain ⟨⟨t125, t126, t127, t128, t129⟩, A20, H⟩ := H
  replace H : (if t129.isNone = true then (converters_DecodeInt.j0 k t125 t126 t127 (decide (t127 < 0))) else (converters_DecodeInt.j0 k t125 t126 t127 true)) = some r := H
  have A2 := Aside0.mk A20
  clear A20
  have HC3 := Aside0.mk H
  clear H
  go_enter Tryd.func42, Tryd.ntmps42
  go_upto_region 2 with (first | ((with_reducible refine gate_callee (f := 35) rfl ?_); refine goesL_ (some 10) rfl rfl Tryd.func35 (by kernel_rfl) rfl #[.slice A0 l0.length c0] rfl (by (try simp only [List.map_toArray, List.map_cons, List.map_nil]); first | done | rfl | (simp only [List.length_drop, List.length_take]; rfl)) ?_; (with_reducible refine (converters_FromNumber.calls k (fun k_ => k_ < w.heap.size) _ _ l0 t125 t126 t127 t128 t129 _ ?side1 A2.out).mono ?_); (case side1 => exact Kd.V_mk HC0.out (Kd.F_below (Kd.C_F (Kd.heap_int .u8) HR0.out) (by repeat (first | (with_reducible first | exact HB.out | apply below_alloc | apply pw_below_drewN | apply below_drew1) | exact HB.out)))); rintro e w4 ⟨rfl, hb⟩; refine ⟨_, rfl, ?_⟩; have n0_ := Aside0.mk (below_step (by repeat (first | (with_reducible first | exact HB.out | apply below_alloc | apply pw_below_drewN | apply below_drew1) | exact HB.out)) hb); clear HB; have HB := n0_; clear n0_; (try clear hb); (try clear hb2); (try clear hk); (try clear hi); (try simp only [errW_none, errW_some])))
  (try simp only [Act.put, List.setIfInBounds_toArray, List.set_cons_zero, List.set_cons_succ])
  go_cut [21] (fun v21 wc => ∃ (kq : Nat) (x21_2 : Bool), v21 = .bool x21_2 ∧ Aside0 (converters_DecodeInt.j0 kq t125 t126 t127 x21_2 = some r) ∧ Aside0 (kq ≤ k) ∧ Aside0 (Below w.heap.size w wc))
  case first =>
    have H := HC3.out
    clear HC3
    rcases t129 with _ | q130
    · have H1 : (converters_DecodeInt.j0 k t125 t126 t127 (decide (t127 < 0))) = some r := by rw [if_pos (show (none : Option Int).isNone = true by rfl)] at H; exact H
      clear H
      have H := H1
      clear H1
      try simp only [errW_none, errW_some]
      have H' := Aside0.mk H
      clear H
      go_wp2
      go_meet
      case rel => exact ⟨_, (decide (t127 < 0)), (by first | rfl | (simp; done) | (simp [*]; done)), H', ⟨by first | omega | exact Nat.le_refl _⟩, ⟨by repeat (first | (with_reducible first | exact HB.out | apply below_alloc | apply pw_below_drewN | apply below_drew1) | exact HB.out)⟩⟩
    · have H1 : (converters_DecodeInt.j0 k t125 t126 t127 true) = some r := by rw [if_neg (show ¬ (some q130).isNone = true by simp)] at H; exact H
      clear H
      have H := H1
      clear H1
      try simp only [errW_none, errW_some]
      have H' := Aside0.mk H
      clear H
      go_wp2
      go_meet
      case rel => exact ⟨_, (true), (by first | rfl | (simp; done) | (simp [*]; done)), H', ⟨by first | omega | exact Nat.le_refl _⟩, ⟨by repeat (first | (with_reducible first | exact HB.out | apply below_alloc | apply pw_below_drewN | apply below_drew1) | exact HB.out)⟩⟩
  case rest =>
    clear HC3
    try clear q1
    try clear p2
    try clear c3
    try clear c4
    try clear q130
    obtain ⟨kq, x21_2, rfl, HA, HJ2, HB⟩ := hcut
    cases kq with
    | zero => exact absurd HA.out (by simp [converters_DecodeInt.j0])
    | succ kj2 =>
      have H := HA.out
      clear HA
      simp only [converters_DecodeInt.j0] at H
      by_cases c5 : x21_2 = true
      · subst c5
        have H1 : (some 0) = some r := by rw [if_pos rfl] at H; exact H
        clear H
        have H := H1
        clear H1
        obtain rfl := Option.some.inj H
        go_wp2
        go_ret
        exact ⟨by first | rfl | (simp [errW_none, errW_some] <;> rfl) | (simp [*, errW_none, errW_some] <;> rfl), by repeat (first | (with_reducible first | exact HB.out | apply below_alloc | apply pw_below_drewN | apply below_drew1) | exact HB.out)⟩
      · replace c5 := Bool.eq_false_iff.mpr c5
        subst c5
        have H1 : (converters_DecodeInt.l0 kj2 t125 t126 t127) = some r := by rw [if_neg (show ¬ (false = true) by decide)] at H; exact H
        clear H
        have H := H1
        clear H1
        have H' := Aside0.mk H
        clear H
        go_wp2
        go_loopg [3, 5] kj2 (fun kq v3 v5 w' => ∃ (x3_2 : Int) (x5_2 : Int), v3 = .int .u64 x3_2 ∧ v5 = .int .i64 x5_2 ∧ Aside0 (converters_DecodeInt.l0 kq x3_2 t126 x5_2 = some r) ∧ Aside0 (kq ≤ kj2) ∧ Aside0 (Below w.heap.size w w'))
        case atStart => exact ⟨(t125), (t127), (by first | rfl | (simp; done) | (simp [*]; done)), (by first | rfl | (simp; done) | (simp [*]; done)), H', ⟨Nat.le_refl _⟩, ⟨by repeat (first | (with_reducible first | exact HB.out | apply below_alloc | apply pw_below_drewN | apply below_drew1) | exact HB.out)⟩⟩
        case round =>
          clear H'
          try clear q1
          try clear p2
          try clear c3
          try clear c4
          try clear c5
          try clear p2
          try clear q1
          try clear q130
          obtain ⟨x3_2, x5_2, rfl, rfl, HA, HK2, HB⟩ := hrel
          cases gk with
          | zero => exact absurd HA.out (by simp [converters_DecodeInt.l0])
          | succ k2 =>
            have H := HA.out
            clear HA
            simp only [converters_DecodeInt.l0] at H
            by_cases c6 : x5_2 > 0
            · rw [if_pos c6] at H
              have c6b0 : decide (0 < x5_2) = true := decide_eq_true c6
              clear c6
              have H' := Aside0.mk H
              clear H
              go_wp2
              go_roundg k2
              case measure => have := HJ2.out; have := HK2.out; omega
              case rel => exact ⟨(IntKind.u64.wrap (x3_2 * 10)), (wrap64 (x5_2 - 1)), (by first | rfl | (simp; done) | (simp [*]; done)), (by first | rfl | (simp; done) | (simp [*]; done)), H', ⟨by have := HJ2.out; have := HK2.out; omega⟩, ⟨by repeat (first | (with_reducible first | exact HB.out | apply below_alloc | apply pw_below_drewN | apply below_drew1) | exact HB.out)⟩⟩
            · rw [if_neg c6] at H
              have c6b0 : decide (0 < x5_2) = false := decide_eq_false c6
              clear c6
              by_cases c7 : t126 = true
              · subst c7
                have H1 : (if (x3_2 / 9223372036854775808) = 0 then (some (wrap64 (-(wrap64 (x3_2))))) else (some (wrap64 (x3_2)))) = some r := by rw [if_pos rfl] at H; exact H
                clear H
                have H := H1
                clear H1
                by_cases c8 : (x3_2 / 9223372036854775808) = 0
                · rw [if_pos c8] at H
                  have c8b0 : ((x3_2 / 9223372036854775808) == 0) = true := beq_iff_eq.mpr c8
                  have c8b1 : ((x3_2 / 9223372036854775808) != 0) = false := bne_eq_false_iff_eq.mpr c8
                  clear c8
                  obtain rfl := Option.some.inj H
                  go_wp2
                  go_ret
                  exact ⟨by first | rfl | (simp [errW_none, errW_some] <;> rfl) | (simp [*, errW_none, errW_some] <;> rfl), by repeat (first | (with_reducible first | exact HB.out | apply below_alloc | apply pw_below_drewN | apply below_drew1) | exact HB.out)⟩
                · rw [if_neg c8] at H
                  have c8b0 : ((x3_2 / 9223372036854775808) == 0) = false := beq_eq_false_iff_ne.mpr c8
                  have c8b1 : ((x3_2 / 9223372036854775808) != 0) = true := bne_iff_ne.mpr c8
                  obtain rfl := Option.some.inj H
                  go_wp2
                  go_ret
                  exact ⟨by first | rfl | (simp [errW_none, errW_some] <;> rfl) | (simp [*, errW_none, errW_some] <;> rfl), by repeat (first | (with_reducible first | exact HB.out | apply below_alloc | apply pw_below_drewN | apply below_drew1) | exact HB.out)⟩
              · replace c7 := Bool.eq_false_iff.mpr c7
                subst c7
                have H1 : (some (wrap64 (x3_2))) = some r := by rw [if_neg (show ¬ (false = true) by decide)] at H; exact H
                clear H
                have H := H1
                clear H1
                obtain rfl := Option.some.inj H
                go_wp2
                go_ret
                exact ⟨by first | rfl | (simp [errW_none, errW_some] <;> rfl) | (simp [*, errW_none, errW_some] <;> rfl), by repeat (first | (with_reducible first | exact HB.out | apply below_alloc | apply pw_below_drewN | apply below_drew1) | exact HB.out)⟩

/-! ### impl_NumberInt: function 32 -/
def impl_NumberInt.f (k : Nat) (l0 : List Int) : Option (Int) := (bytes_Clone.f l0).bind fun t131 => ((converters_DecodeInt.f k t131).bind fun t134 => (some t134))
theorem impl_NumberInt.mono : ∀ a0 k, LeO (impl_NumberInt.f k a0) (impl_NumberInt.f (k + 1) a0) := by
  intro a0 k
  unfold impl_NumberInt.f
  repeat' first
      | (with_reducible exact converters_DecodeInt.mono _ _)
      | (with_reducible exact LeO.refl _)
      | (with_reducible exact LeO.none _)
      | (with_reducible refine LeO.ite ?_ ?_)
      | (with_reducible refine LeO.bind ?_ (fun _ => ?_))
      | exact converters_DecodeInt.mono _ _
      | exact LeO.none _
      | refine LeO.ite ?_ ?_
      | refine LeO.bind ?_ (fun _ => ?_)
set_option maxHeartbeats 8000000 in
set_option maxRecDepth 100000 in
theorem impl_NumberInt.calls (k : Nat) (A0 : Option Addr) (c0 : Nat) (l0 : List Int) (r : Int) (w : World) (hr0 : Kd.C (Kd.int .u8) w A0 l0.length l0) (hc0 : l0.length ≤ c0) (h : impl_NumberInt.f k l0 = some r) :
    Calls Tryd.prog 32 #[.slice A0 l0.length c0] w fun e w' => e = .returned (.int .i64 r) ∧ Below w.heap.size w w' := by
  have HR0 := Aside0.mk hr0
  have HC0 := Aside0.mk hc0
  clear hr0 hc0
  have HB := Aside0.mk (Below.refl w.heap.size w)
  have H : ((bytes_Clone.f l0).bind fun t131 => ((converters_DecodeInt.f k t131).bind fun t134 => (some t134))) = some r := h
  clear h
  replace H := Option.bind_eq_some_iff.mp H
  obtain ⟨t131, A20, H⟩ := H
  replace H : ((converters_DecodeInt.f k t131).bind fun t134 => (some t134)) = some r := H
  have A2 := Aside0.mk A20
  clear A20
  replace H := Option.bind_eq_some_iff.mp H
  obtain ⟨t134, A30, H⟩ := H
  replace H : (some t134) = some r := H
  have A3 := Aside0.mk A30
  clear A30
  obtain rfl := Option.some.inj H
  go_enter Tryd.func32, Tryd.ntmps32
  go_wp2_with (first | ((with_reducible refine gate_callee (f := 27) rfl ?_); refine goesL_ (some 4) rfl rfl Tryd.func27 (by kernel_rfl) rfl #[.slice A0 l0.length c0] rfl (by (try simp only [List.map_toArray, List.map_cons, List.map_nil]); first | done | rfl | (simp only [List.length_drop, List.length_take]; rfl)) ?_; (with_reducible refine (bytes_Clone.calls _ _ l0 t131 _ ?side1 ?side2 A2.out).mono ?_); (case side1 => repeat (first | exact HR0.out | (with_reducible refine Kd.C_alloc ?_ _) | (with_reducible refine Kd.C_drewN ?_ _) | (with_reducible refine Kd.C_drew ?_))); (case side2 => exact HC0.out); rintro e w4 ⟨v132, rfl, ho0, hb⟩; refine ⟨_, rfl, ?_⟩; have n0_ := Aside0.mk (Kd.R_lower ho0 (below_size (by repeat (first | (with_reducible first | exact HB.out | apply below_alloc | apply pw_below_drewN | apply below_drew1) | exact HB.out)))); have n1_ := Aside0.mk (below_step (by repeat (first | (with_reducible first | exact HB.out | apply below_alloc | apply pw_below_drewN | apply below_drew1) | exact HB.out)) hb); clear HB; have HO133 := n0_; have HB := n1_; clear n0_ n1_; (try clear hb); (try clear hb2); (try clear hk); (try clear hi); (try clear ho0); obtain ⟨Ao5, co5, eo5⟩ := Kd.R_slice HO133.out; subst eo5) | ((with_reducible refine gate_callee (f := 42) rfl ?_); refine goesL_ (some 5) rfl rfl Tryd.func42 (by kernel_rfl) rfl #[.slice Ao5 t131.length co5] rfl (by (try simp only [List.map_toArray, List.map_cons, List.map_nil]); first | done | rfl | (simp only [List.length_drop, List.length_take]; rfl)) ?_; (with_reducible refine (converters_DecodeInt.calls k _ _ t131 t134 _ ?side1 ?side2 A3.out).mono ?_); (case side1 => repeat (first | exact (Kd.R_reads' HO133.out).2.2 | (with_reducible refine Kd.C_alloc ?_ _) | (with_reducible refine Kd.C_drewN ?_ _) | (with_reducible refine Kd.C_drew ?_))); (case side2 => exact (Kd.R_reads' HO133.out).2.1); rintro e w6 ⟨rfl, hb⟩; refine ⟨_, rfl, ?_⟩; have n0_ := Aside0.mk (Kd.R_below (by (with_reducible repeat (first | apply Kd.R_alloc | apply Kd.R_drewN | apply Kd.R_drew)); exact HO133.out) hb); have n1_ := Aside0.mk (below_step (by repeat (first | (with_reducible first | exact HB.out | apply below_alloc | apply pw_below_drewN | apply below_drew1) | exact HB.out)) hb); clear HO133; clear HB; have HO133 := n0_; have HB := n1_; clear n0_ n1_; (try clear hb); (try clear hb2); (try clear hk); (try clear hi)))
  go_ret
  exact ⟨by first | rfl | (simp [errW_none, errW_some] <;> rfl) | (simp [*, errW_none, errW_some] <;> rfl), by repeat (first | (with_reducible first | exact HB.out | apply below_alloc | apply pw_below_drewN | apply below_drew1) | exact HB.out)⟩

/-! ### laws_numberAwake: function 12 -/
def laws_numberAwake.f (k : Nat)  : Option (Bool) := (impl_NumberOfInt64.f 123).bind fun t135 => ((spec_NumberSame.f t135 (([194, 2, 24] : List Int))).bind fun t141 => (if t141 = true then ((impl_NumberInt.f k (([194, 2, 24] : List Int))).bind fun t145 => (some (t145 == 123))) else (some false)))
theorem laws_numberAwake.mono : ∀ k, LeO (laws_numberAwake.f k ) (laws_numberAwake.f (k + 1) ) := by
  intro  k
  unfold laws_numberAwake.f
  repeat' first
      | (with_reducible exact impl_NumberInt.mono _ _)
      | (with_reducible exact LeO.refl _)
      | (with_reducible exact LeO.none _)
      | (with_reducible refine LeO.ite ?_ ?_)
      | (with_reducible refine LeO.bind ?_ (fun _ => ?_))
      | exact impl_NumberInt.mono _ _
      | exact LeO.none _
      | refine LeO.ite ?_ ?_
      | refine LeO.bind ?_ (fun _ => ?_)
set_option maxHeartbeats 8000000 in
set_option maxRecDepth 100000 in
theorem laws_numberAwake.calls (k : Nat)  (r : Bool) (w : World) (h : laws_numberAwake.f k  = some r) (htab : Tab w) :
    Calls Tryd.prog 12 #[] w fun e w' => e = .returned (.bool r) ∧ Below w.heap.size w w' := by
  have HT := Aside0.mk (tab_all htab)
  clear htab
  have HB := Aside0.mk (Below.refl w.heap.size w)
  have H : ((impl_NumberOfInt64.f 123).bind fun t135 => ((spec_NumberSame.f t135 (([194, 2, 24] : List Int))).bind fun t141 => (if t141 = true then ((impl_NumberInt.f k (([194, 2, 24] : List Int))).bind fun t145 => (some (t145 == 123))) else (some false)))) = some r := h
  clear h
  replace H := Option.bind_eq_some_iff.mp H
  obtain ⟨t135, A10, H⟩ := H
  replace H : ((spec_NumberSame.f t135 (([194, 2, 24] : List Int))).bind fun t141 => (if t141 = true then ((impl_NumberInt.f k (([194, 2, 24] : List Int))).bind fun t145 => (some (t145 == 123))) else (some false))) = some r := H
  have A1 := Aside0.mk A10
  clear A10
  obtain ⟨y138, hy138⟩ : ∃ y_ : List Int, y_ = (([194, 2, 24] : List Int)) := ⟨_, rfl⟩
  replace H : ((spec_NumberSame.f t135 y138).bind fun t141 => (if t141 = true then ((impl_NumberInt.f k (([194, 2, 24] : List Int))).bind fun t145 => (some (t145 == 123))) else (some false))) = some r := by first | (rw [hy138]; with_reducible exact H) | (have H2_ := (Option.bind_some _ _).symm.trans H; rw [hy138]; with_reducible exact H2_) | (have H2_ := (Option.bind_some _ _).symm.trans H; with_reducible exact H2_) | with_reducible exact H | (rw [hy138]; exact H) | exact H
  have Ny138 := Aside0.mk hy138
  clear hy138
  replace H := Option.bind_eq_some_iff.mp H
  obtain ⟨t141, A20, H⟩ := H
  replace H : (if t141 = true then ((impl_NumberInt.f k (([194, 2, 24] : List Int))).bind fun t145 => (some (t145 == 123))) else (some false)) = some r := H
  have A2 := Aside0.mk A20
  clear A20
  by_cases c3 : t141 = true
  · subst c3
    have H1 : ((impl_NumberInt.f k (([194, 2, 24] : List Int))).bind fun t145 => (some (t145 == 123))) = some r := by rw [if_pos rfl] at H; exact H
    clear H
    have H := H1
    clear H1
    obtain ⟨y142, hy142⟩ : ∃ y_ : List Int, y_ = (([194, 2, 24] : List Int)) := ⟨_, rfl⟩
    replace H : ((impl_NumberInt.f k y142).bind fun t145 => (some (t145 == 123))) = some r := by first | (rw [hy142]; with_reducible exact H) | (have H2_ := (Option.bind_some _ _).symm.trans H; rw [hy142]; with_reducible exact H2_) | (have H2_ := (Option.bind_some _ _).symm.trans H; with_reducible exact H2_) | with_reducible exact H | (rw [hy142]; exact H) | exact H
    have Ny142 := Aside0.mk hy142
    clear hy142
    replace H := Option.bind_eq_some_iff.mp H
    obtain ⟨t145, A40, H⟩ := H
    replace H : (some (t145 == 123)) = some r := H
    have A4 := Aside0.mk A40
    clear A40
    obtain rfl := Option.some.inj H
    go_enter Tryd.func12, Tryd.ntmps12
    go_wp2_with (first | ((with_reducible refine gate_callee (f := 10) rfl ?_); refine goesL_ (some 1) rfl rfl Tryd.func10 (by kernel_rfl) rfl #[.int .i64 123] rfl (by (try simp only [List.map_toArray, List.map_cons, List.map_nil]); first | done | rfl | (simp only [List.length_drop, List.length_take]; rfl)) ?_; (with_reducible refine (impl_NumberOfInt64.calls 123 t135 _ A1.out ?side99).mono ?_); (case side99 => exact HT.out _ (by repeat (first | (with_reducible first | exact HB.out | apply below_alloc | apply pw_below_drewN | apply below_drew1) | exact HB.out))); rintro e w5 ⟨v136, rfl, ho0, hb⟩; refine ⟨_, rfl, ?_⟩; have n0_ := Aside0.mk (Kd.R_lower ho0 (below_size (by repeat (first | (with_reducible first | exact HB.out | apply below_alloc | apply pw_below_drewN | apply below_drew1) | exact HB.out)))); have n1_ := Aside0.mk (below_step (by repeat (first | (with_reducible first | exact HB.out | apply below_alloc | apply pw_below_drewN | apply below_drew1) | exact HB.out)) hb); clear HB; have HO137 := n0_; have HB := n1_; clear n0_ n1_; (try clear hb); (try clear hb2); (try clear hk); (try clear hi); (try clear ho0)) | ((with_reducible refine gate_dst (N := 2) rfl ?_); (try (refine gate_guard (by rfl) ?_; dsimp only)); refine Kd.R_lit (Kd.int .u8) _ 5 ?hg (N := 2) ?hd (xs := ([194, 2, 24] : List Int)) (inner := [.int .u8 194, .int .u8 2, .int .u8 24]) (ok := fun _ => True) (okp := fun _ => True) ?hr ?hp (fun _ hk => hk) trivial (Below.refl _ _) (Nat.le_refl _) (by simp) ?_; (case hd => rfl); (case hg => rfl); (case hr => first | (go_simp; done) | (go_simp; rfl)); (case hp => exact (Reps.one (show Kd.M (Kd.int .u8) _ _ _ 194 [.int .u8 194] from rfl) (Reps.one (show Kd.M (Kd.int .u8) _ _ _ 2 [.int .u8 2] from rfl) (Reps.one (show Kd.M (Kd.int .u8) _ _ _ 24 [.int .u8 24] from rfl) (Reps.none _ _))))); intro v139 w6 ho7 hb hg_ hnew_; clear hg_ hnew_; (first | rw [← Ny138.out] at ho7 | (simp only [Int.reduceToNat] at ho7; rw [← Ny138.out] at ho7)); have n0_ := Aside0.mk (Kd.R_elder' (by (with_reducible repeat (first | apply Kd.R_alloc | apply Kd.R_drewN | apply Kd.R_drew)); exact HO137.out) (Kd.R_base ho7) hb); have n1_ := Aside0.mk (Kd.R_lower (Kd.R_new' ho7 (Kd.R_lt (by (with_reducible repeat (first | apply Kd.R_alloc | apply Kd.R_drewN | apply Kd.R_drew)); exact HO137.out))) (below_size (by repeat (first | (with_reducible first | exact HB.out | apply below_alloc | apply pw_below_drewN | apply below_drew1) | exact HB.out)))); have n2_ := Aside0.mk (below_step (by repeat (first | (with_reducible first | exact HB.out | apply below_alloc | apply pw_below_drewN | apply below_drew1) | exact HB.out)) hb); clear HO137; clear HB; have HO137 := n0_; have HO140 := n1_; have HB := n2_; clear n0_ n1_ n2_; clear hb ho7; obtain ⟨Ao8, co8, eo8⟩ := Kd.R_slice HO137.out; subst eo8; obtain ⟨Ao9, co9, eo9⟩ := Kd.R_slice HO140.out; subst eo9) | ((with_reducible refine gate_callee (f := 14) rfl ?_); refine goesL_ (some 3) rfl rfl Tryd.func14 (by kernel_rfl) rfl #[.slice Ao8 t135.length co8, .slice Ao9 y138.length co9] rfl (by (try simp only [List.map_toArray, List.map_cons, List.map_nil]); first | done | rfl | (simp only [List.length_drop, List.length_take]; rfl)) ?_; (with_reducible refine (spec_NumberSame.calls _ _ t135 _ _ y138 true _ ?side1 ?side2 ?side3 ?side4 A2.out).mono ?_); (case side1 => repeat (first | exact (Kd.R_reads' HO137.out).2.2 | (with_reducible refine Kd.C_alloc ?_ _) | (with_reducible refine Kd.C_drewN ?_ _) | (with_reducible refine Kd.C_drew ?_))); (case side2 => exact (Kd.R_reads' HO137.out).2.1); (case side3 => repeat (first | exact (Kd.R_reads' HO140.out).2.2 | (with_reducible refine Kd.C_alloc ?_ _) | (with_reducible refine Kd.C_drewN ?_ _) | (with_reducible refine Kd.C_drew ?_))); (case side4 => exact (Kd.R_reads' HO140.out).2.1); rintro e w' ⟨rfl, ⟨nd, rfl⟩⟩; refine ⟨_, rfl, ?_⟩) | ((with_reducible refine gate_dst (N := 5) rfl ?_); (try (refine gate_guard (by rfl) ?_; dsimp only)); refine Kd.R_lit (Kd.int .u8) _ 5 ?hg (N := 5) ?hd (xs := ([194, 2, 24] : List Int)) (inner := [.int .u8 194, .int .u8 2, .int .u8 24]) (ok := fun _ => True) (okp := fun _ => True) ?hr ?hp (fun _ hk => hk) trivial (Below.refl _ _) (Nat.le_refl _) (by simp) ?_; (case hd => rfl); (case hg => rfl); (case hr => first | (go_simp; done) | (go_simp; rfl)); (case hp => exact (Reps.one (show Kd.M (Kd.int .u8) _ _ _ 194 [.int .u8 194] from rfl) (Reps.one (show Kd.M (Kd.int .u8) _ _ _ 2 [.int .u8 2] from rfl) (Reps.one (show Kd.M (Kd.int .u8) _ _ _ 24 [.int .u8 24] from rfl) (Reps.none _ _))))); intro v143 w10 ho11 hb hg_ hnew_; clear hg_ hnew_; (first | rw [← Ny142.out] at ho11 | (simp only [Int.reduceToNat] at ho11; rw [← Ny142.out] at ho11)); have n0_ := Aside0.mk (Kd.R_elder' (by (with_reducible repeat (first | apply Kd.R_alloc | apply Kd.R_drewN | apply Kd.R_drew)); exact HO137.out) (Kd.R_base ho11) hb); have n1_ := Aside0.mk (Kd.R_elder' (by (with_reducible repeat (first | apply Kd.R_alloc | apply Kd.R_drewN | apply Kd.R_drew)); exact HO140.out) (Kd.R_base ho11) hb); have n2_ := Aside0.mk (Kd.R_lower (Kd.R_new' (Kd.R_new' ho11 (Kd.R_lt (by (with_reducible repeat (first | apply Kd.R_alloc | apply Kd.R_drewN | apply Kd.R_drew)); exact HO137.out))) (Kd.R_lt (by (with_reducible repeat (first | apply Kd.R_alloc | apply Kd.R_drewN | apply Kd.R_drew)); exact HO140.out))) (below_size (by repeat (first | (with_reducible first | exact HB.out | apply below_alloc | apply pw_below_drewN | apply below_drew1) | exact HB.out)))); have n3_ := Aside0.mk (below_step (by repeat (first | (with_reducible first | exact HB.out | apply below_alloc | apply pw_below_drewN | apply below_drew1) | exact HB.out)) hb); clear HO137; clear HO140; clear HB; have HO137 := n0_; have HO140 := n1_; have HO144 := n2_; have HB := n3_; clear n0_ n1_ n2_ n3_; clear hb ho11; obtain ⟨Ao12, co12, eo12⟩ := Kd.R_slice HO144.out; subst eo12) | (go_at_call 32; (with_reducible refine (impl_NumberInt.calls k _ _ y142 t145 _ ?side1 ?side2 A4.out).mono ?_); (case side1 => repeat (first | exact (Kd.R_reads' HO144.out).2.2 | (with_reducible refine Kd.C_alloc ?_ _) | (with_reducible refine Kd.C_drewN ?_ _) | (with_reducible refine Kd.C_drew ?_))); (case side2 => exact (Kd.R_reads' HO144.out).2.1); rintro e w13 ⟨rfl, hb⟩; have n0_ := Aside0.mk (Kd.R_below (by (with_reducible repeat (first | apply Kd.R_alloc | apply Kd.R_drewN | apply Kd.R_drew)); exact HO137.out) hb); have n1_ := Aside0.mk (Kd.R_below (by (with_reducible repeat (first | apply Kd.R_alloc | apply Kd.R_drewN | apply Kd.R_drew)); exact HO140.out) hb); have n2_ := Aside0.mk (Kd.R_below (by (with_reducible repeat (first | apply Kd.R_alloc | apply Kd.R_drewN | apply Kd.R_drew)); exact HO144.out) hb); have n3_ := Aside0.mk (below_step (by repeat (first | (with_reducible first | exact HB.out | apply below_alloc | apply pw_below_drewN | apply below_drew1) | exact HB.out)) hb); clear HO137; clear HO140; clear HO144; clear HB; have HO137 := n0_; have HO140 := n1_; have HO144 := n2_; have HB := n3_; clear n0_ n1_ n2_ n3_; (try clear hb); (try clear hb2); (try clear hk); (try clear hi)))
    go_ret
    exact ⟨by first | rfl | (simp [errW_none, errW_some] <;> rfl) | (simp [*, errW_none, errW_some] <;> rfl), by repeat (first | (with_reducible first | exact HB.out | apply below_alloc | apply pw_below_drewN | apply below_drew1) | exact HB.out)⟩
  · replace c3 := Bool.eq_false_iff.mpr c3
    subst c3
    have H1 : (some false) = some r := by rw [if_neg (show ¬ (false = true) by decide)] at H; exact H
    clear H
    have H := H1
    clear H1
    obtain rfl := Option.some.inj H
    go_enter Tryd.func12, Tryd.ntmps12
    go_wp2_with (first | ((with_reducible refine gate_callee (f := 10) rfl ?_); refine goesL_ (some 1) rfl rfl Tryd.func10 (by kernel_rfl) rfl #[.int .i64 123] rfl (by (try simp only [List.map_toArray, List.map_cons, List.map_nil]); first | done | rfl | (simp only [List.length_drop, List.length_take]; rfl)) ?_; (with_reducible refine (impl_NumberOfInt64.calls 123 t135 _ A1.out ?side99).mono ?_); (case side99 => exact HT.out _ (by repeat (first | (with_reducible first | exact HB.out | apply below_alloc | apply pw_below_drewN | apply below_drew1) | exact HB.out))); rintro e w14 ⟨v136, rfl, ho0, hb⟩; refine ⟨_, rfl, ?_⟩; have n0_ := Aside0.mk (Kd.R_lower ho0 (below_size (by repeat (first | (with_reducible first | exact HB.out | apply below_alloc | apply pw_below_drewN | apply below_drew1) | exact HB.out)))); have n1_ := Aside0.mk (below_step (by repeat (first | (with_reducible first | exact HB.out | apply below_alloc | apply pw_below_drewN | apply below_drew1) | exact HB.out)) hb); clear HB; have HO137 := n0_; have HB := n1_; clear n0_ n1_; (try clear hb); (try clear hb2); (try clear hk); (try clear hi); (try clear ho0)) | ((with_reducible refine gate_dst (N := 2) rfl ?_); (try (refine gate_guard (by rfl) ?_; dsimp only)); refine Kd.R_lit (Kd.int .u8) _ 5 ?hg (N := 2) ?hd (xs := ([194, 2, 24] : List Int)) (inner := [.int .u8 194, .int .u8 2, .int .u8 24]) (ok := fun _ => True) (okp := fun _ => True) ?hr ?hp (fun _ hk => hk) trivial (Below.refl _ _) (Nat.le_refl _) (by simp) ?_; (case hd => rfl); (case hg => rfl); (case hr => first | (go_simp; done) | (go_simp; rfl)); (case hp => exact (Reps.one (show Kd.M (Kd.int .u8) _ _ _ 194 [.int .u8 194] from rfl) (Reps.one (show Kd.M (Kd.int .u8) _ _ _ 2 [.int .u8 2] from rfl) (Reps.one (show Kd.M (Kd.int .u8) _ _ _ 24 [.int .u8 24] from rfl) (Reps.none _ _))))); intro v139 w15 ho16 hb hg_ hnew_; clear hg_ hnew_; (first | rw [← Ny138.out] at ho16 | (simp only [Int.reduceToNat] at ho16; rw [← Ny138.out] at ho16)); have n0_ := Aside0.mk (Kd.R_elder' (by (with_reducible repeat (first | apply Kd.R_alloc | apply Kd.R_drewN | apply Kd.R_drew)); exact HO137.out) (Kd.R_base ho16) hb); have n1_ := Aside0.mk (Kd.R_lower (Kd.R_new' ho16 (Kd.R_lt (by (with_reducible repeat (first | apply Kd.R_alloc | apply Kd.R_drewN | apply Kd.R_drew)); exact HO137.out))) (below_size (by repeat (first | (with_reducible first | exact HB.out | apply below_alloc | apply pw_below_drewN | apply below_drew1) | exact HB.out)))); have n2_ := Aside0.mk (below_step (by repeat (first | (with_reducible first | exact HB.out | apply below_alloc | apply pw_below_drewN | apply below_drew1) | exact HB.out)) hb); clear HO137; clear HB; have HO137 := n0_; have HO140 := n1_; have HB := n2_; clear n0_ n1_ n2_; clear hb ho16; obtain ⟨Ao17, co17, eo17⟩ := Kd.R_slice HO137.out; subst eo17; obtain ⟨Ao18, co18, eo18⟩ := Kd.R_slice HO140.out; subst eo18) | ((with_reducible refine gate_callee (f := 14) rfl ?_); refine goesL_ (some 3) rfl rfl Tryd.func14 (by kernel_rfl) rfl #[.slice Ao17 t135.length co17, .slice Ao18 y138.length co18] rfl (by (try simp only [List.map_toArray, List.map_cons, List.map_nil]); first | done | rfl | (simp only [List.length_drop, List.length_take]; rfl)) ?_; (with_reducible refine (spec_NumberSame.calls _ _ t135 _ _ y138 false _ ?side1 ?side2 ?side3 ?side4 A2.out).mono ?_); (case side1 => repeat (first | exact (Kd.R_reads' HO137.out).2.2 | (with_reducible refine Kd.C_alloc ?_ _) | (with_reducible refine Kd.C_drewN ?_ _) | (with_reducible refine Kd.C_drew ?_))); (case side2 => exact (Kd.R_reads' HO137.out).2.1); (case side3 => repeat (first | exact (Kd.R_reads' HO140.out).2.2 | (with_reducible refine Kd.C_alloc ?_ _) | (with_reducible refine Kd.C_drewN ?_ _) | (with_reducible refine Kd.C_drew ?_))); (case side4 => exact (Kd.R_reads' HO140.out).2.1); rintro e w' ⟨rfl, ⟨nd, rfl⟩⟩; refine ⟨_, rfl, ?_⟩))
    go_ret
    exact ⟨by first | rfl | (simp [errW_none, errW_some] <;> rfl) | (simp [*, errW_none, errW_some] <;> rfl), by repeat (first | (with_reducible first | exact HB.out | apply below_alloc | apply pw_below_drewN | apply below_drew1) | exact HB.out)⟩

/-! ### laws_FnNumberLength: function 3 -/
def laws_FnNumberLength.f (k : Nat) (a0 : Int) : Option (Bool) := (impl_NumberOfInt64.f a0).bind fun t146 => (if a0 < 0 then ((spec_NumberDecimal.f k (IntKind.u64.wrap (-(IntKind.u64.wrap (a0)))) false).bind fun t149 => (if (t146.length : Int) ≥ 1 then (if (t146.length : Int) ≤ (wrap64 ((wrap64 ((wrap64 ((t149.size : Int) / 2)) + 1)) + 2)) then ((laws_numberAwake.f k).bind fun t150 => (some t150)) else (none)) else (none))) else ((spec_NumberDecimal.f k (IntKind.u64.wrap (a0)) false).bind fun t151 => (if (t146.length : Int) ≥ 1 then (if (t146.length : Int) ≤ (wrap64 ((wrap64 ((wrap64 ((t151.size : Int) / 2)) + 1)) + 2)) then ((laws_numberAwake.f k).bind fun t152 => (some t152)) else (none)) else (none))))
theorem laws_FnNumberLength.mono : ∀ a0 k, LeO (laws_FnNumberLength.f k a0) (laws_FnNumberLength.f (k + 1) a0) := by
  intro a0 k
  unfold laws_FnNumberLength.f
  repeat' first
      | (with_reducible exact laws_numberAwake.mono _)
      | (with_reducible exact spec_NumberDecimal.mono _ _ _)
      | (with_reducible exact LeO.refl _)
      | (with_reducible exact LeO.none _)
      | (with_reducible refine LeO.ite ?_ ?_)
      | (with_reducible refine LeO.bind ?_ (fun _ => ?_))
      | exact laws_numberAwake.mono _
      | exact spec_NumberDecimal.mono _ _ _
      | exact LeO.none _
      | refine LeO.ite ?_ ?_
      | refine LeO.bind ?_ (fun _ => ?_)
set_option maxHeartbeats 8000000 in
set_option maxRecDepth 100000 in
theorem laws_FnNumberLength.calls (k : Nat) (a0 : Int) (r : Bool) (w : World) (h : laws_FnNumberLength.f k a0 = some r) (htab : Tab w) :
    Calls Tryd.prog 3 #[.int .i64 a0] w fun e w' => e = .returned (.bool r) ∧ Below w.heap.size w w' := by
  have HT := Aside0.mk (tab_all htab)
  clear htab
  have HB := Aside0.mk (Below.refl w.heap.size w)
  have H : ((impl_NumberOfInt64.f a0).bind fun t146 => (if a0 < 0 then ((spec_NumberDecimal.f k (IntKind.u64.wrap (-(IntKind.u64.wrap (a0)))) false).bind fun t149 => (if (t146.length : Int) ≥ 1 then (if (t146.length : Int) ≤ (wrap64 ((wrap64 ((wrap64 ((t149.size : Int) / 2)) + 1)) + 2)) then ((laws_numberAwake.f k).bind fun t150 => (some t150)) else (none)) else (none))) else ((spec_NumberDecimal.f k (IntKind.u64.wrap (a0)) false).bind fun t151 => (if (t146.length : Int) ≥ 1 then (if (t146.length : Int) ≤ (wrap64 ((wrap64 ((wrap64 ((t151.size : Int) / 2)) + 1)) + 2)) then ((laws_numberAwake.f k).bind fun t152 => (some t152)) else (none)) else (none))))) = some r := h
  clear h
  replace H := Option.bind_eq_some_iff.mp H
  obtain ⟨t146, A20, H⟩ := H
  replace H : (if a0 < 0 then ((spec_NumberDecimal.f k (IntKind.u64.wrap (-(IntKind.u64.wrap (a0)))) false).bind fun t149 => (if (t146.length : Int) ≥ 1 then (if (t146.length : Int) ≤ (wrap64 ((wrap64 ((wrap64 ((t149.size : Int) / 2)) + 1)) + 2)) then ((laws_numberAwake.f k).bind fun t150 => (some t150)) else (none)) else (none))) else ((spec_NumberDecimal.f k (IntKind.u64.wrap (a0)) false).bind fun t151 => (if (t146.length : Int) ≥ 1 then (if (t146.length : Int) ≤ (wrap64 ((wrap64 ((wrap64 ((t151.size : Int) / 2)) + 1)) + 2)) then ((laws_numberAwake.f k).bind fun t152 => (some t152)) else (none)) else (none)))) = some r := H
  have A2 := Aside0.mk A20
  clear A20
  by_cases c3 : a0 < 0
  · rw [if_pos c3] at H
    have c3b0 : decide (a0 < 0) = true := decide_eq_true c3
    clear c3
    replace H := Option.bind_eq_some_iff.mp H
    obtain ⟨t149, A40, H⟩ := H
    replace H : (if (t146.length : Int) ≥ 1 then (if (t146.length : Int) ≤ (wrap64 ((wrap64 ((wrap64 ((t149.size : Int) / 2)) + 1)) + 2)) then ((laws_numberAwake.f k).bind fun t150 => (some t150)) else (none)) else (none)) = some r := H
    have A4 := Aside0.mk A40
    clear A40
    by_cases c5 : (t146.length : Int) ≥ 1
    · rw [if_pos c5] at H
      have c5b0 : decide (1 ≤ (t146.length : Int)) = true := decide_eq_true c5
      have c5b1 : decide (1 ≤ t146.length) = true := decide_eq_true (by omega)
      clear c5
      by_cases c6 : (t146.length : Int) ≤ (wrap64 ((wrap64 ((wrap64 ((t149.size : Int) / 2)) + 1)) + 2))
      · rw [if_pos c6] at H
        have c6b0 : decide ((t146.length : Int) ≤ (wrap64 ((wrap64 ((wrap64 ((t149.size : Int) / 2)) + 1)) + 2))) = true := decide_eq_true c6
        clear c6
        replace H := Option.bind_eq_some_iff.mp H
        obtain ⟨t150, A70, H⟩ := H
        replace H : (some t150) = some r := H
        have A7 := Aside0.mk A70
        clear A70
        obtain rfl := Option.some.inj H
        go_enter Tryd.func3, Tryd.ntmps3
        go_wp2_with (first | ((with_reducible refine gate_callee (f := 10) rfl ?_); refine goesL_ (some 7) rfl rfl Tryd.func10 (by kernel_rfl) rfl #[.int .i64 a0] rfl (by (try simp only [List.map_toArray, List.map_cons, List.map_nil]); first | done | rfl | (simp only [List.length_drop, List.length_take]; rfl)) ?_; (with_reducible refine (impl_NumberOfInt64.calls a0 t146 _ A2.out ?side99).mono ?_); (case side99 => exact HT.out _ (by repeat (first | (with_reducible first | exact HB.out | apply below_alloc | apply pw_below_drewN | apply below_drew1) | exact HB.out))); rintro e w8 ⟨v147, rfl, ho0, hb⟩; refine ⟨_, rfl, ?_⟩; have n0_ := Aside0.mk (Kd.R_lower ho0 (below_size (by repeat (first | (with_reducible first | exact HB.out | apply below_alloc | apply pw_below_drewN | apply below_drew1) | exact HB.out)))); have n1_ := Aside0.mk (below_step (by repeat (first | (with_reducible first | exact HB.out | apply below_alloc | apply pw_below_drewN | apply below_drew1) | exact HB.out)) hb); clear HB; have HO148 := n0_; have HB := n1_; clear n0_ n1_; (try clear hb); (try clear hb2); (try clear hk); (try clear hi); (try clear ho0)) | ((with_reducible refine gate_callee (f := 11) rfl ?_); refine goesL_ (some 15) rfl rfl Tryd.func11 (by kernel_rfl) rfl #[.int .u64 (IntKind.u64.wrap (-(IntKind.u64.wrap (a0)))), .bool false] rfl (by (try simp only [List.map_toArray, List.map_cons, List.map_nil]); first | done | rfl | (simp only [List.length_drop, List.length_take]; rfl)) ?_; (with_reducible refine (spec_NumberDecimal.calls k (IntKind.u64.wrap (-(IntKind.u64.wrap (a0)))) false t149 _ A4.out).mono ?_); rintro e w' ⟨rfl, ⟨nd, rfl⟩⟩; refine ⟨_, rfl, ?_⟩; obtain ⟨Ao9, co9, eo9⟩ := Kd.R_slice HO148.out; subst eo9) | (go_at_call 12; (with_reducible refine (laws_numberAwake.calls k  t150 _ A7.out ?side99).mono ?_); (case side99 => exact HT.out _ (by repeat (first | (with_reducible first | exact HB.out | apply below_alloc | apply pw_below_drewN | apply below_drew1) | exact HB.out))); rintro e w10 ⟨rfl, hb⟩; have n0_ := Aside0.mk (Kd.R_below (by (with_reducible repeat (first | apply Kd.R_alloc | apply Kd.R_drewN | apply Kd.R_drew)); exact HO148.out) hb); have n1_ := Aside0.mk (below_step (by repeat (first | (with_reducible first | exact HB.out | apply below_alloc | apply pw_below_drewN | apply below_drew1) | exact HB.out)) hb); clear HO148; clear HB; have HO148 := n0_; have HB := n1_; clear n0_ n1_; (try clear hb); (try clear hb2); (try clear hk); (try clear hi)))
        go_ret
        exact ⟨by first | rfl | (simp [errW_none, errW_some] <;> rfl) | (simp [*, errW_none, errW_some] <;> rfl), by repeat (first | (with_reducible first | exact HB.out | apply below_alloc | apply pw_below_drewN | apply below_drew1) | exact HB.out)⟩
      · rw [if_neg c6] at H
        exact absurd H (by simp)
    · rw [if_neg c5] at H
      exact absurd H (by simp)
  · rw [if_neg c3] at H
    have c3b0 : decide (a0 < 0) = false := decide_eq_false c3
    clear c3
    replace H := Option.bind_eq_some_iff.mp H
    obtain ⟨t151, A150, H⟩ := H
    replace H : (if (t146.length : Int) ≥ 1 then (if (t146.length : Int) ≤ (wrap64 ((wrap64 ((wrap64 ((t151.size : Int) / 2)) + 1)) + 2)) then ((laws_numberAwake.f k).bind fun t152 => (some t152)) else (none)) else (none)) = some r := H
    have A15 := Aside0.mk A150
    clear A150
    by_cases c16 : (t146.length : Int) ≥ 1
    · rw [if_pos c16] at H
      have c16b0 : decide (1 ≤ (t146.length : Int)) = true := decide_eq_true c16
      have c16b1 : decide (1 ≤ t146.length) = true := decide_eq_true (by omega)
      clear c16
      by_cases c17 : (t146.length : Int) ≤ (wrap64 ((wrap64 ((wrap64 ((t151.size : Int) / 2)) + 1)) + 2))
      · rw [if_pos c17] at H
        have c17b0 : decide ((t146.length : Int) ≤ (wrap64 ((wrap64 ((wrap64 ((t151.size : Int) / 2)) + 1)) + 2))) = true := decide_eq_true c17
        clear c17
        replace H := Option.bind_eq_some_iff.mp H
        obtain ⟨t152, A180, H⟩ := H
        replace H : (some t152) = some r := H
        have A18 := Aside0.mk A180
        clear A180
        obtain rfl := Option.some.inj H
        go_enter Tryd.func3, Tryd.ntmps3
        go_wp2_with (first | ((with_reducible refine gate_callee (f := 10) rfl ?_); refine goesL_ (some 7) rfl rfl Tryd.func10 (by kernel_rfl) rfl #[.int .i64 a0] rfl (by (try simp only [List.map_toArray, List.map_cons, List.map_nil]); first | done | rfl | (simp only [List.length_drop, List.length_take]; rfl)) ?_; (with_reducible refine (impl_NumberOfInt64.calls a0 t146 _ A2.out ?side99).mono ?_); (case side99 => exact HT.out _ (by repeat (first | (with_reducible first | exact HB.out | apply below_alloc | apply pw_below_drewN | apply below_drew1) | exact HB.out))); rintro e w19 ⟨v147, rfl, ho0, hb⟩; refine ⟨_, rfl, ?_⟩; have n0_ := Aside0.mk (Kd.R_lower ho0 (below_size (by repeat (first | (with_reducible first | exact HB.out | apply below_alloc | apply pw_below_drewN | apply below_drew1) | exact HB.out)))); have n1_ := Aside0.mk (below_step (by repeat (first | (with_reducible first | exact HB.out | apply below_alloc | apply pw_below_drewN | apply below_drew1) | exact HB.out)) hb); clear HB; have HO148 := n0_; have HB := n1_; clear n0_ n1_; (try clear hb); (try clear hb2); (try clear hk); (try clear hi); (try clear ho0)) | ((with_reducible refine gate_callee (f := 11) rfl ?_); refine goesL_ (some 15) rfl rfl Tryd.func11 (by kernel_rfl) rfl #[.int .u64 (IntKind.u64.wrap (a0)), .bool false] rfl (by (try simp only [List.map_toArray, List.map_cons, List.map_nil]); first | done | rfl | (simp only [List.length_drop, List.length_take]; rfl)) ?_; (with_reducible refine (spec_NumberDecimal.calls k (IntKind.u64.wrap (a0)) false t151 _ A15.out).mono ?_); rintro e w' ⟨rfl, ⟨nd, rfl⟩⟩; refine ⟨_, rfl, ?_⟩; obtain ⟨Ao20, co20, eo20⟩ := Kd.R_slice HO148.out; subst eo20) | (go_at_call 12; (with_reducible refine (laws_numberAwake.calls k  t152 _ A18.out ?side99).mono ?_); (case side99 => exact HT.out _ (by repeat (first | (with_reducible first | exact HB.out | apply below_alloc | apply pw_below_drewN | apply below_drew1) | exact HB.out))); rintro e w21 ⟨rfl, hb⟩; have n0_ := Aside0.mk (Kd.R_below (by (with_reducible repeat (first | apply Kd.R_alloc | apply Kd.R_drewN | apply Kd.R_drew)); exact HO148.out) hb); have n1_ := Aside0.mk (below_step (by repeat (first | (with_reducible first | exact HB.out | apply below_alloc | apply pw_below_drewN | apply below_drew1) | exact HB.out)) hb); clear HO148; clear HB; have HO148 := n0_; have HB := n1_; clear n0_ n1_; (try clear hb); (try clear hb2); (try clear hk); (try clear hi)))
        go_ret
        exact ⟨by first | rfl | (simp [errW_none, errW_some] <;> rfl) | (simp [*, errW_none, errW_some] <;> rfl), by repeat (first | (with_reducible first | exact HB.out | apply below_alloc | apply pw_below_drewN | apply below_drew1) | exact HB.out)⟩
      · rw [if_neg c17] at H
        exact absurd H (by simp)
    · rw [if_neg c16] at H
      exact absurd H (by simp)
/-- THE ONE PURE STATEMENT of laws_FnNumberLength: yours. -/
def laws_FnNumberLength.Pure : Prop := ∀ (a0 : Int), (Lit.int .i64 a0).wf = true → ∃ k, laws_FnNumberLength.f k a0 = some true
end Go.Proofs.YtepooaejlofkkaaDoor.ZN
