-- Written by a program of this session (wip/xprint.py), which calls the kit's print.
import Derived.Test.YtepooaejlofkkaaDoorZC0
import Derived.Test.YtepooaejlofkkaaDoorZC1
import Derived.Test.YtepooaejlofkkaaDoorZC2
import Derived.Test.YtepooaejlofkkaaDoorNum
import Derived.Test.YtepooaejlofkkaaDoorCb
namespace Go.Proofs.YtepooaejlofkkaaDoor.ZC
open Go.RowKit Go.Proofs.YtepooaejlofkkaaDoor.X Go.Proofs.YtepooaejlofkkaaDoorW.PrintWords Go.Proofs.YtepooaejlofkkaaDoorW.PrintLast Go.Proofs.YtepooaejlofkkaaDoorW.PrintMore
attribute [local go_sem] max2_int min2_int max_two min_two max_three min_three max_four min_four   -- for this text's walks alone
set_option linter.unusedVariables false
set_option linter.unusedSimpArgs false

/-! ### converters_DecodeInt: function 42 -/
mutual
def converters_DecodeInt.j0 : Nat → Int → Bool → Int → Bool → Option (Int)
  | 0, _, _, _, _ => none
  | k + 1, x3, x4, x5, x21 => if x21 = true then (some 0) else (converters_DecodeInt.l0 k x3 x4 x5)
def converters_DecodeInt.l0 : Nat → Int → Bool → Int → Option (Int)
  | 0, _, _, _ => none
  | k + 1, x3, x4, x5 => if x5 > 0 then (converters_DecodeInt.l0 k (IntKind.u64.wrap (x3 * 10)) x4 (wrap64 (x5 - 1))) else (if x4 = true then (if (x3 / 9223372036854775808) = 0 then (some (wrap64 (-(wrap64 (x3))))) else (some (wrap64 (x3)))) else (some (wrap64 (x3))))
end
def converters_DecodeInt.f (k : Nat) (l0 : List Int) : Option (Int) := (converters_FromNumber.f k l0).bind fun bt125 => (if bt125.2.2.2.2.isNone = true then (converters_DecodeInt.j0 k bt125.1 bt125.2.1 bt125.2.2.1 (decide (bt125.2.2.1 < 0))) else (converters_DecodeInt.j0 k bt125.1 bt125.2.1 bt125.2.2.1 true))
theorem converters_DecodeInt.mono_l : ∀ k, (∀ y0 y1 y2 y3, LeO (converters_DecodeInt.j0 k y0 y1 y2 y3) (converters_DecodeInt.j0 (k + 1) y0 y1 y2 y3)) ∧ (∀ y0 y1 y2, LeO (converters_DecodeInt.l0 k y0 y1 y2) (converters_DecodeInt.l0 (k + 1) y0 y1 y2))
  | 0 => ⟨fun _ _ _ _ r h => by simp [converters_DecodeInt.j0] at h, fun _ _ _ r h => by simp [converters_DecodeInt.l0] at h⟩
  | k + 1 => by
    obtain ⟨ih0, ih1⟩ := converters_DecodeInt.mono_l k
    refine ⟨?_, ?_⟩
    · intro y0 y1 y2 y3
      unfold converters_DecodeInt.j0
      repeat' first
      | (with_reducible exact ih0 _ _ _ _)
      | (with_reducible exact ih1 _ _ _)
      | (with_reducible exact converters_FromNumber.mono _ _)
      | (with_reducible exact LeO.refl _)
      | (with_reducible exact LeO.none _)
      | (with_reducible refine LeO.ite ?_ ?_)
      | (with_reducible refine LeO.bind ?_ (fun _ => ?_))
      | exact ih0 _ _ _ _
      | exact ih1 _ _ _
      | exact converters_FromNumber.mono _ _
      | exact LeO.none _
      | refine LeO.ite ?_ ?_
      | refine LeO.bind ?_ (fun _ => ?_)
    · intro y0 y1 y2
      unfold converters_DecodeInt.l0
      repeat' first
      | (with_reducible exact ih0 _ _ _ _)
      | (with_reducible exact ih1 _ _ _)
      | (with_reducible exact converters_FromNumber.mono _ _)
      | (with_reducible exact LeO.refl _)
      | (with_reducible exact LeO.none _)
      | (with_reducible refine LeO.ite ?_ ?_)
      | (with_reducible refine LeO.bind ?_ (fun _ => ?_))
      | exact ih0 _ _ _ _
      | exact ih1 _ _ _
      | exact converters_FromNumber.mono _ _
      | exact LeO.none _
      | refine LeO.ite ?_ ?_
      | refine LeO.bind ?_ (fun _ => ?_)
theorem converters_DecodeInt.mono : ∀ a0 k, LeO (converters_DecodeInt.f k a0) (converters_DecodeInt.f (k + 1) a0) := by
  intro a0 k
  obtain ⟨ih0, ih1⟩ := converters_DecodeInt.mono_l k
  unfold converters_DecodeInt.f
  repeat' first
      | (with_reducible exact ih0 _ _ _ _)
      | (with_reducible exact ih1 _ _ _)
      | (with_reducible exact converters_FromNumber.mono _ _)
      | (with_reducible exact LeO.refl _)
      | (with_reducible exact LeO.none _)
      | (with_reducible refine LeO.ite ?_ ?_)
      | (with_reducible refine LeO.bind ?_ (fun _ => ?_))
      | exact ih0 _ _ _ _
      | exact ih1 _ _ _
      | exact converters_FromNumber.mono _ _
      | exact LeO.none _
      | refine LeO.ite ?_ ?_
      | refine LeO.bind ?_ (fun _ => ?_)
set_option maxHeartbeats 8000000 in
set_option maxRecDepth 100000 in
theorem converters_DecodeInt.calls (k : Nat) (A0 : Option Addr) (c0 : Nat) (l0 : List Int) (r : Int) (w : World) (hr0 : Kd.C (Kd.int .u8) w A0 l0.length l0) (hc0 : l0.length ≤ c0) (h : converters_DecodeInt.f k l0 = some r) :
    Calls Tryd.prog 42 #[.slice A0 l0.length c0] w fun e w' => e = .returned (.int .i64 r) ∧ Below w.heap.size w w' := by
  have hu50 := Tryd.underlying50
  have HR0 := Aside0.mk hr0
  have HC0 := Aside0.mk hc0
  clear hr0 hc0
  have HB := Aside0.mk (Below.refl w.heap.size w)
  have H : ((converters_FromNumber.f k l0).bind fun bt125 => (if bt125.2.2.2.2.isNone = true then (converters_DecodeInt.j0 k bt125.1 bt125.2.1 bt125.2.2.1 (decide (bt125.2.2.1 < 0))) else (converters_DecodeInt.j0 k bt125.1 bt125.2.1 bt125.2.2.1 true))) = some r := h
  clear h
  replace H := Option.bind_eq_some_iff.mp H
  obtain ⟨⟨t125, t126, t127, t128, t129⟩, A20, H⟩ := H
  replace H : (if t129.isNone = true then (converters_DecodeInt.j0 k t125 t126 t127 (decide (t127 < 0))) else (converters_DecodeInt.j0 k t125 t126 t127 true)) = some r := H
  have A2 := Aside0.mk A20
  clear A20
  have HC3 := Aside0.mk H
  clear H
  go_enter Tryd.func42, Tryd.ntmps42
  go_upto_region 2 with (first | ((with_reducible refine gate_callee (f := 35) rfl ?_); refine goesL_ (some 10) rfl rfl Tryd.func35 (by kernel_rfl) rfl #[.slice A0 l0.length c0] rfl (by (try simp only [List.map_toArray, List.map_cons, List.map_nil]); first | done | rfl | (simp only [List.length_drop, List.length_take]; rfl)) ?_; (with_reducible refine (converters_FromNumber.calls k (fun k_ => k_ < w.heap.size) _ _ l0 t125 t126 t127 t128 t129 _ ?side1 A2.out).mono ?_); (case side1 => exact Kd.V_mk HC0.out (Kd.F_below (Kd.C_F (Kd.heap_int .u8) HR0.out) (by repeat (first | (with_reducible first | exact HB.out | apply below_alloc | apply pw_below_drewN | apply below_drew1) | exact HB.out)))); rintro e w4 ⟨rfl, hb⟩; refine ⟨_, rfl, ?_⟩; have n0_ := Aside0.mk (below_step (by repeat (first | (with_reducible first | exact HB.out | apply below_alloc | apply pw_below_drewN | apply below_drew1) | exact HB.out)) hb); clear HB; have HB := n0_; clear n0_; (try clear hb); (try clear hb2); (try clear hk); (try clear hi); (try simp only [errW_none, errW_some])))
  (try simp only [Act.put, List.setIfInBounds_toArray, List.set_cons_zero, List.set_cons_succ])
  go_cut [21] (fun v21 wc => ∃ (kq : Nat) (x21_2 : Bool), v21 = .bool x21_2 ∧ Aside0 (converters_DecodeInt.j0 kq t125 t126 t127 x21_2 = some r) ∧ Aside0 (kq ≤ k) ∧ Aside0 (Below w.heap.size w wc))
  case first =>
    have H := HC3.out
    clear HC3
    rcases t129 with _ | q130
    · have H1 : (converters_DecodeInt.j0 k t125 t126 t127 (decide (t127 < 0))) = some r := by rw [if_pos (show (none : Option Int).isNone = true by rfl)] at H; exact H
      clear H
      have H := H1
      clear H1
      try simp only [errW_none, errW_some]
      have H' := Aside0.mk H
      clear H
      go_wp2
      go_meet
      case rel => exact ⟨_, (decide (t127 < 0)), (by first | rfl | (simp; done) | (simp [*]; done)), H', ⟨by first | omega | exact Nat.le_refl _⟩, ⟨by repeat (first | (with_reducible first | exact HB.out | apply below_alloc | apply pw_below_drewN | apply below_drew1) | exact HB.out)⟩⟩
    · have H1 : (converters_DecodeInt.j0 k t125 t126 t127 true) = some r := by rw [if_neg (show ¬ (some q130).isNone = true by simp)] at H; exact H
      clear H
      have H := H1
      clear H1
      try simp only [errW_none, errW_some]
      have H' := Aside0.mk H
      clear H
      go_wp2
      go_meet
      case rel => exact ⟨_, (true), (by first | rfl | (simp; done) | (simp [*]; done)), H', ⟨by first | omega | exact Nat.le_refl _⟩, ⟨by repeat (first | (with_reducible first | exact HB.out | apply below_alloc | apply pw_below_drewN | apply below_drew1) | exact HB.out)⟩⟩
  case rest =>
    clear HC3
    try clear q1
    try clear p2
    try clear c3
    try clear c4
    try clear q130
    obtain ⟨kq, x21_2, rfl, HA, HJ2, HB⟩ := hcut
    cases kq with
    | zero => exact absurd HA.out (by simp [converters_DecodeInt.j0])
    | succ kj2 =>
      have H := HA.out
      clear HA
      simp only [converters_DecodeInt.j0] at H
      by_cases c5 : x21_2 = true
      · subst c5
        have H1 : (some 0) = some r := by rw [if_pos rfl] at H; exact H
        clear H
        have H := H1
        clear H1
        obtain rfl := Option.some.inj H
        go_wp2
        go_ret
        exact ⟨by first | rfl | (simp [errW_none, errW_some] <;> rfl) | (simp [*, errW_none, errW_some] <;> rfl), by repeat (first | (with_reducible first | exact HB.out | apply below_alloc | apply pw_below_drewN | apply below_drew1) | exact HB.out)⟩
      · replace c5 := Bool.eq_false_iff.mpr c5
        subst c5
        have H1 : (converters_DecodeInt.l0 kj2 t125 t126 t127) = some r := by rw [if_neg (show ¬ (false = true) by decide)] at H; exact H
        clear H
        have H := H1
        clear H1
        have H' := Aside0.mk H
        clear H
        go_wp2
        go_loopg [3, 5] kj2 (fun kq v3 v5 w' => ∃ (x3_2 : Int) (x5_2 : Int), v3 = .int .u64 x3_2 ∧ v5 = .int .i64 x5_2 ∧ Aside0 (converters_DecodeInt.l0 kq x3_2 t126 x5_2 = some r) ∧ Aside0 (kq ≤ kj2) ∧ Aside0 (Below w.heap.size w w'))
        case atStart => exact ⟨(t125), (t127), (by first | rfl | (simp; done) | (simp [*]; done)), (by first | rfl | (simp; done) | (simp [*]; done)), H', ⟨Nat.le_refl _⟩, ⟨by repeat (first | (with_reducible first | exact HB.out | apply below_alloc | apply pw_below_drewN | apply below_drew1) | exact HB.out)⟩⟩
        case round =>
          clear H'
          try clear q1
          try clear p2
          try clear c3
          try clear c4
          try clear c5
          try clear p2
          try clear q1
          try clear q130
          obtain ⟨x3_2, x5_2, rfl, rfl, HA, HK2, HB⟩ := hrel
          cases gk with
          | zero => exact absurd HA.out (by simp [converters_DecodeInt.l0])
          | succ k2 =>
            have H := HA.out
            clear HA
            simp only [converters_DecodeInt.l0] at H
            by_cases c6 : x5_2 > 0
            · rw [if_pos c6] at H
              have c6b0 : decide (0 < x5_2) = true := decide_eq_true c6
              clear c6
              have H' := Aside0.mk H
              clear H
              go_wp2
              go_roundg k2
              case measure => have := HJ2.out; have := HK2.out; omega
              case rel => exact ⟨(IntKind.u64.wrap (x3_2 * 10)), (wrap64 (x5_2 - 1)), (by first | rfl | (simp; done) | (simp [*]; done)), (by first | rfl | (simp; done) | (simp [*]; done)), H', ⟨by have := HJ2.out; have := HK2.out; omega⟩, ⟨by repeat (first | (with_reducible first | exact HB.out | apply below_alloc | apply pw_below_drewN | apply below_drew1) | exact HB.out)⟩⟩
            · rw [if_neg c6] at H
              have c6b0 : decide (0 < x5_2) = false := decide_eq_false c6
              clear c6
              by_cases c7 : t126 = true
              · subst c7
                have H1 : (if (x3_2 / 9223372036854775808) = 0 then (some (wrap64 (-(wrap64 (x3_2))))) else (some (wrap64 (x3_2)))) = some r := by rw [if_pos rfl] at H; exact H
                clear H
                have H := H1
                clear H1
                by_cases c8 : (x3_2 / 9223372036854775808) = 0
                · rw [if_pos c8] at H
                  have c8b0 : ((x3_2 / 9223372036854775808) == 0) = true := beq_iff_eq.mpr c8
                  have c8b1 : ((x3_2 / 9223372036854775808) != 0) = false := bne_eq_false_iff_eq.mpr c8
                  clear c8
                  obtain rfl := Option.some.inj H
                  go_wp2
                  go_ret
                  exact ⟨by first | rfl | (simp [errW_none, errW_some] <;> rfl) | (simp [*, errW_none, errW_some] <;> rfl), by repeat (first | (with_reducible first | exact HB.out | apply below_alloc | apply pw_below_drewN | apply below_drew1) | exact HB.out)⟩
                · rw [if_neg c8] at H
                  have c8b0 : ((x3_2 / 9223372036854775808) == 0) = false := beq_eq_false_iff_ne.mpr c8
                  have c8b1 : ((x3_2 / 9223372036854775808) != 0) = true := bne_iff_ne.mpr c8
                  obtain rfl := Option.some.inj H
                  go_wp2
                  go_ret
                  exact ⟨by first | rfl | (simp [errW_none, errW_some] <;> rfl) | (simp [*, errW_none, errW_some] <;> rfl), by repeat (first | (with_reducible first | exact HB.out | apply below_alloc | apply pw_below_drewN | apply below_drew1) | exact HB.out)⟩
              · replace c7 := Bool.eq_false_iff.mpr c7
                subst c7
                have H1 : (some (wrap64 (x3_2))) = some r := by rw [if_neg (show ¬ (false = true) by decide)] at H; exact H
                clear H
                have H := H1
                clear H1
                obtain rfl := Option.some.inj H
                go_wp2
                go_ret
                exact ⟨by first | rfl | (simp [errW_none, errW_some] <;> rfl) | (simp [*, errW_none, errW_some] <;> rfl), by repeat (first | (with_reducible first | exact HB.out | apply below_alloc | apply pw_below_drewN | apply below_drew1) | exact HB.out)⟩

/-! ### impl_NumberInt: function 32 -/
def impl_NumberInt.f (k : Nat) (l0 : List Int) : Option (Int) := (bytes_Clone.f l0).bind fun t131 => ((converters_DecodeInt.f k t131).bind fun t134 => (some t134))
theorem impl_NumberInt.mono : ∀ a0 k, LeO (impl_NumberInt.f k a0) (impl_NumberInt.f (k + 1) a0) := by
  intro a0 k
  unfold impl_NumberInt.f
  repeat' first
      | (with_reducible exact converters_DecodeInt.mono _ _)
      | (with_reducible exact LeO.refl _)
      | (with_reducible exact LeO.none _)
      | (with_reducible refine LeO.ite ?_ ?_)
      | (with_reducible refine LeO.bind ?_ (fun _ => ?_))
      | exact converters_DecodeInt.mono _ _
      | exact LeO.none _
      | refine LeO.ite ?_ ?_
      | refine LeO.bind ?_ (fun _ => ?_)
set_option maxHeartbeats 8000000 in
set_option maxRecDepth 100000 in
theorem impl_NumberInt.calls (k : Nat) (A0 : Option Addr) (c0 : Nat) (l0 : List Int) (r : Int) (w : World) (hr0 : Kd.C (Kd.int .u8) w A0 l0.length l0) (hc0 : l0.length ≤ c0) (h : impl_NumberInt.f k l0 = some r) :
    Calls Tryd.prog 32 #[.slice A0 l0.length c0] w fun e w' => e = .returned (.int .i64 r) ∧ Below w.heap.size w w' := by
  have HR0 := Aside0.mk hr0
  have HC0 := Aside0.mk hc0
  clear hr0 hc0
  have HB := Aside0.mk (Below.refl w.heap.size w)
  have H : ((bytes_Clone.f l0).bind fun t131 => ((converters_DecodeInt.f k t131).bind fun t134 => (some t134))) = some r := h
  clear h
  replace H := Option.bind_eq_some_iff.mp H
  obtain ⟨t131, A20, H⟩ := H
  replace H : ((converters_DecodeInt.f k t131).bind fun t134 => (some t134)) = some r := H
  have A2 := Aside0.mk A20
  clear A20
  replace H := Option.bind_eq_some_iff.mp H
  obtain ⟨t134, A30, H⟩ := H
  replace H : (some t134) = some r := H
  have A3 := Aside0.mk A30
  clear A30
  obtain rfl := Option.some.inj H
  go_enter Tryd.func32, Tryd.ntmps32
  go_wp2_with (first | ((with_reducible refine gate_callee (f := 27) rfl ?_); refine goesL_ (some 4) rfl rfl Tryd.func27 (by kernel_rfl) rfl #[.slice A0 l0.length c0] rfl (by (try simp only [List.map_toArray, List.map_cons, List.map_nil]); first | done | rfl | (simp only [List.length_drop, List.length_take]; rfl)) ?_; (with_reducible refine (bytes_Clone.calls _ _ l0 t131 _ ?side1 ?side2 A2.out).mono ?_); (case side1 => repeat (first | exact HR0.out | (with_reducible refine Kd.C_alloc ?_ _) | (with_reducible refine Kd.C_drewN ?_ _) | (with_reducible refine Kd.C_drew ?_))); (case side2 => exact HC0.out); rintro e w4 ⟨v132, rfl, ho0, hb⟩; refine ⟨_, rfl, ?_⟩; have n0_ := Aside0.mk (Kd.R_lower ho0 (below_size (by repeat (first | (with_reducible first | exact HB.out | apply below_alloc | apply pw_below_drewN | apply below_drew1) | exact HB.out)))); have n1_ := Aside0.mk (below_step (by repeat (first | (with_reducible first | exact HB.out | apply below_alloc | apply pw_below_drewN | apply below_drew1) | exact HB.out)) hb); clear HB; have HO133 := n0_; have HB := n1_; clear n0_ n1_; (try clear hb); (try clear hb2); (try clear hk); (try clear hi); (try clear ho0); obtain ⟨Ao5, co5, eo5⟩ := Kd.R_slice HO133.out; subst eo5) | ((with_reducible refine gate_callee (f := 42) rfl ?_); refine goesL_ (some 5) rfl rfl Tryd.func42 (by kernel_rfl) rfl #[.slice Ao5 t131.length co5] rfl (by (try simp only [List.map_toArray, List.map_cons, List.map_nil]); first | done | rfl | (simp only [List.length_drop, List.length_take]; rfl)) ?_; (with_reducible refine (converters_DecodeInt.calls k _ _ t131 t134 _ ?side1 ?side2 A3.out).mono ?_); (case side1 => repeat (first | exact (Kd.R_reads' HO133.out).2.2 | (with_reducible refine Kd.C_alloc ?_ _) | (with_reducible refine Kd.C_drewN ?_ _) | (with_reducible refine Kd.C_drew ?_))); (case side2 => exact (Kd.R_reads' HO133.out).2.1); rintro e w6 ⟨rfl, hb⟩; refine ⟨_, rfl, ?_⟩; have n0_ := Aside0.mk (Kd.R_below (by (with_reducible repeat (first | apply Kd.R_alloc | apply Kd.R_drewN | apply Kd.R_drew)); exact HO133.out) hb); have n1_ := Aside0.mk (below_step (by repeat (first | (with_reducible first | exact HB.out | apply below_alloc | apply pw_below_drewN | apply below_drew1) | exact HB.out)) hb); clear HO133; clear HB; have HO133 := n0_; have HB := n1_; clear n0_ n1_; (try clear hb); (try clear hb2); (try clear hk); (try clear hi)))
  go_ret
  exact ⟨by first | rfl | (simp [errW_none, errW_some] <;> rfl) | (simp [*, errW_none, errW_some] <;> rfl), by repeat (first | (with_reducible first | exact HB.out | apply below_alloc | apply pw_below_drewN | apply below_drew1) | exact HB.out)⟩

/-! ### laws_numberAwake: function 12 -/
def laws_numberAwake.f (k : Nat)  : Option (Bool) := (impl_NumberOfInt64.f 123).bind fun t135 => ((spec_NumberSame.f t135 (([194, 2, 24] : List Int))).bind fun t141 => (if t141 = true then ((impl_NumberInt.f k (([194, 2, 24] : List Int))).bind fun t145 => (some (t145 == 123))) else (some false)))
theorem laws_numberAwake.mono : ∀ k, LeO (laws_numberAwake.f k ) (laws_numberAwake.f (k + 1) ) := by
  intro  k
  unfold laws_numberAwake.f
  repeat' first
      | (with_reducible exact impl_NumberInt.mono _ _)
      | (with_reducible exact LeO.refl _)
      | (with_reducible exact LeO.none _)
      | (with_reducible refine LeO.ite ?_ ?_)
      | (with_reducible refine LeO.bind ?_ (fun _ => ?_))
      | exact impl_NumberInt.mono _ _
      | exact LeO.none _
      | refine LeO.ite ?_ ?_
      | refine LeO.bind ?_ (fun _ => ?_)
set_option maxHeartbeats 8000000 in
set_option maxRecDepth 100000 in
theorem laws_numberAwake.calls (k : Nat)  (r : Bool) (w : World) (h : laws_numberAwake.f k  = some r) (htab : Tab w) :
    Calls Tryd.prog 12 #[] w fun e w' => e = .returned (.bool r) ∧ Below w.heap.size w w' := by
  have HT := Aside0.mk (tab_all htab)
  clear htab
  have HB := Aside0.mk (Below.refl w.heap.size w)
  have H : ((impl_NumberOfInt64.f 123).bind fun t135 => ((spec_NumberSame.f t135 (([194, 2, 24] : List Int))).bind fun t141 => (if t141 = true then ((impl_NumberInt.f k (([194, 2, 24] : List Int))).bind fun t145 => (some (t145 == 123))) else (some false)))) = some r := h
  clear h
  replace H := Option.bind_eq_some_iff.mp H
  obtain ⟨t135, A10, H⟩ := H
  replace H : ((spec_NumberSame.f t135 (([194, 2, 24] : List Int))).bind fun t141 => (if t141 = true then ((impl_NumberInt.f k (([194, 2, 24] : List Int))).bind fun t145 => (some (t145 == 123))) else (some false))) = some r := H
  have A1 := Aside0.mk A10
  clear A10
  obtain ⟨y138, hy138⟩ : ∃ y_ : List Int, y_ = (([194, 2, 24] : List Int)) := ⟨_, rfl⟩
  replace H : ((spec_NumberSame.f t135 y138).bind fun t141 => (if t141 = true then ((impl_NumberInt.f k (([194, 2, 24] : List Int))).bind fun t145 => (some (t145 == 123))) else (some false))) = some r := by first | (rw [hy138]; with_reducible exact H) | (have H2_ := (Option.bind_some _ _).symm.trans H; rw [hy138]; with_reducible exact H2_) | (have H2_ := (Option.bind_some _ _).symm.trans H; with_reducible exact H2_) | with_reducible exact H | (rw [hy138]; exact H) | exact H
  have Ny138 := Aside0.mk hy138
  clear hy138
  replace H := Option.bind_eq_some_iff.mp H
  obtain ⟨t141, A20, H⟩ := H
  replace H : (if t141 = true then ((impl_NumberInt.f k (([194, 2, 24] : List Int))).bind fun t145 => (some (t145 == 123))) else (some false)) = some r := H
  have A2 := Aside0.mk A20
  clear A20
  by_cases c3 : t141 = true
  · subst c3
    have H1 : ((impl_NumberInt.f k (([194, 2, 24] : List Int))).bind fun t145 => (some (t145 == 123))) = some r := by rw [if_pos rfl] at H; exact H
    clear H
    have H := H1
    clear H1
    obtain ⟨y142, hy142⟩ : ∃ y_ : List Int, y_ = (([194, 2, 24] : List Int)) := ⟨_, rfl⟩
    replace H : ((impl_NumberInt.f k y142).bind fun t145 => (some (t145 == 123))) = some r := by first | (rw [hy142]; with_reducible exact H) | (have H2_ := (Option.bind_some _ _).symm.trans H; rw [hy142]; with_reducible exact H2_) | (have H2_ := (Option.bind_some _ _).symm.trans H; with_reducible exact H2_) | with_reducible exact H | (rw [hy142]; exact H) | exact H
    have Ny142 := Aside0.mk hy142
    clear hy142
    replace H := Option.bind_eq_some_iff.mp H
    obtain ⟨t145, A40, H⟩ := H
    replace H : (some (t145 == 123)) = some r := H
    have A4 := Aside0.mk A40
    clear A40
    obtain rfl := Option.some.inj H
    go_enter Tryd.func12, Tryd.ntmps12
    go_wp2_with (first | ((with_reducible refine gate_callee (f := 10) rfl ?_); refine goesL_ (some 1) rfl rfl Tryd.func10 (by kernel_rfl) rfl #[.int .i64 123] rfl (by (try simp only [List.map_toArray, List.map_cons, List.map_nil]); first | done | rfl | (simp only [List.length_drop, List.length_take]; rfl)) ?_; (with_reducible refine (impl_NumberOfInt64.calls 123 t135 _ A1.out ?side99).mono ?_); (case side99 => exact HT.out _ (by repeat (first | (with_reducible first | exact HB.out | apply below_alloc | apply pw_below_drewN | apply below_drew1) | exact HB.out))); rintro e w5 ⟨v136, rfl, ho0, hb⟩; refine ⟨_, rfl, ?_⟩; have n0_ := Aside0.mk (Kd.R_lower ho0 (below_size (by repeat (first | (with_reducible first | exact HB.out | apply below_alloc | apply pw_below_drewN | apply below_drew1) | exact HB.out)))); have n1_ := Aside0.mk (below_step (by repeat (first | (with_reducible first | exact HB.out | apply below_alloc | apply pw_below_drewN | apply below_drew1) | exact HB.out)) hb); clear HB; have HO137 := n0_; have HB := n1_; clear n0_ n1_; (try clear hb); (try clear hb2); (try clear hk); (try clear hi); (try clear ho0)) | ((with_reducible refine gate_dst (N := 2) rfl ?_); (try (refine gate_guard (by rfl) ?_; dsimp only)); refine Kd.R_lit (Kd.int .u8) _ 5 ?hg (N := 2) ?hd (xs := ([194, 2, 24] : List Int)) (inner := [.int .u8 194, .int .u8 2, .int .u8 24]) (ok := fun _ => True) (okp := fun _ => True) ?hr ?hp (fun _ hk => hk) trivial (Below.refl _ _) (Nat.le_refl _) (by simp) ?_; (case hd => rfl); (case hg => rfl); (case hr => first | (go_simp; done) | (go_simp; rfl)); (case hp => exact (Reps.one (show Kd.M (Kd.int .u8) _ _ _ 194 [.int .u8 194] from rfl) (Reps.one (show Kd.M (Kd.int .u8) _ _ _ 2 [.int .u8 2] from rfl) (Reps.one (show Kd.M (Kd.int .u8) _ _ _ 24 [.int .u8 24] from rfl) (Reps.none _ _))))); intro v139 w6 ho7 hb hg_ hnew_; clear hg_ hnew_; (first | rw [← Ny138.out] at ho7 | (simp only [Int.reduceToNat] at ho7; rw [← Ny138.out] at ho7)); have n0_ := Aside0.mk (Kd.R_elder' (by (with_reducible repeat (first | apply Kd.R_alloc | apply Kd.R_drewN | apply Kd.R_drew)); exact HO137.out) (Kd.R_base ho7) hb); have n1_ := Aside0.mk (Kd.R_lower (Kd.R_new' ho7 (Kd.R_lt (by (with_reducible repeat (first | apply Kd.R_alloc | apply Kd.R_drewN | apply Kd.R_drew)); exact HO137.out))) (below_size (by repeat (first | (with_reducible first | exact HB.out | apply below_alloc | apply pw_below_drewN | apply below_drew1) | exact HB.out)))); have n2_ := Aside0.mk (below_step (by repeat (first | (with_reducible first | exact HB.out | apply below_alloc | apply pw_below_drewN | apply below_drew1) | exact HB.out)) hb); clear HO137; clear HB; have HO137 := n0_; have HO140 := n1_; have HB := n2_; clear n0_ n1_ n2_; clear hb ho7; obtain ⟨Ao8, co8, eo8⟩ := Kd.R_slice HO137.out; subst eo8; obtain ⟨Ao9, co9, eo9⟩ := Kd.R_slice HO140.out; subst eo9) | ((with_reducible refine gate_callee (f := 14) rfl ?_); refine goesL_ (some 3) rfl rfl Tryd.func14 (by kernel_rfl) rfl #[.slice Ao8 t135.length co8, .slice Ao9 y138.length co9] rfl (by (try simp only [List.map_toArray, List.map_cons, List.map_nil]); first | done | rfl | (simp only [List.length_drop, List.length_take]; rfl)) ?_; (with_reducible refine (spec_NumberSame.calls _ _ t135 _ _ y138 true _ ?side1 ?side2 ?side3 ?side4 A2.out).mono ?_); (case side1 => repeat (first | exact (Kd.R_reads' HO137.out).2.2 | (with_reducible refine Kd.C_alloc ?_ _) | (with_reducible refine Kd.C_drewN ?_ _) | (with_reducible refine Kd.C_drew ?_))); (case side2 => exact (Kd.R_reads' HO137.out).2.1); (case side3 => repeat (first | exact (Kd.R_reads' HO140.out).2.2 | (with_reducible refine Kd.C_alloc ?_ _) | (with_reducible refine Kd.C_drewN ?_ _) | (with_reducible refine Kd.C_drew ?_))); (case side4 => exact (Kd.R_reads' HO140.out).2.1); rintro e w' ⟨rfl, ⟨nd, rfl⟩⟩; refine ⟨_, rfl, ?_⟩) | ((with_reducible refine gate_dst (N := 5) rfl ?_); (try (refine gate_guard (by rfl) ?_; dsimp only)); refine Kd.R_lit (Kd.int .u8) _ 5 ?hg (N := 5) ?hd (xs := ([194, 2, 24] : List Int)) (inner := [.int .u8 194, .int .u8 2, .int .u8 24]) (ok := fun _ => True) (okp := fun _ => True) ?hr ?hp (fun _ hk => hk) trivial (Below.refl _ _) (Nat.le_refl _) (by simp) ?_; (case hd => rfl); (case hg => rfl); (case hr => first | (go_simp; done) | (go_simp; rfl)); (case hp => exact (Reps.one (show Kd.M (Kd.int .u8) _ _ _ 194 [.int .u8 194] from rfl) (Reps.one (show Kd.M (Kd.int .u8) _ _ _ 2 [.int .u8 2] from rfl) (Reps.one (show Kd.M (Kd.int .u8) _ _ _ 24 [.int .u8 24] from rfl) (Reps.none _ _))))); intro v143 w10 ho11 hb hg_ hnew_; clear hg_ hnew_; (first | rw [← Ny142.out] at ho11 | (simp only [Int.reduceToNat] at ho11; rw [← Ny142.out] at ho11)); have n0_ := Aside0.mk (Kd.R_elder' (by (with_reducible repeat (first | apply Kd.R_alloc | apply Kd.R_drewN | apply Kd.R_drew)); exact HO137.out) (Kd.R_base ho11) hb); have n1_ := Aside0.mk (Kd.R_elder' (by (with_reducible repeat (first | apply Kd.R_alloc | apply Kd.R_drewN | apply Kd.R_drew)); exact HO140.out) (Kd.R_base ho11) hb); have n2_ := Aside0.mk (Kd.R_lower (Kd.R_new' (Kd.R_new' ho11 (Kd.R_lt (by (with_reducible repeat (first | apply Kd.R_alloc | apply Kd.R_drewN | apply Kd.R_drew)); exact HO137.out))) (Kd.R_lt (by (with_reducible repeat (first | apply Kd.R_alloc | apply Kd.R_drewN | apply Kd.R_drew)); exact HO140.out))) (below_size (by repeat (first | (with_reducible first | exact HB.out | apply below_alloc | apply pw_below_drewN | apply below_drew1) | exact HB.out)))); have n3_ := Aside0.mk (below_step (by repeat (first | (with_reducible first | exact HB.out | apply below_alloc | apply pw_below_drewN | apply below_drew1) | exact HB.out)) hb); clear HO137; clear HO140; clear HB; have HO137 := n0_; have HO140 := n1_; have HO144 := n2_; have HB := n3_; clear n0_ n1_ n2_ n3_; clear hb ho11; obtain ⟨Ao12, co12, eo12⟩ := Kd.R_slice HO144.out; subst eo12) | (go_at_call 32; (with_reducible refine (impl_NumberInt.calls k _ _ y142 t145 _ ?side1 ?side2 A4.out).mono ?_); (case side1 => repeat (first | exact (Kd.R_reads' HO144.out).2.2 | (with_reducible refine Kd.C_alloc ?_ _) | (with_reducible refine Kd.C_drewN ?_ _) | (with_reducible refine Kd.C_drew ?_))); (case side2 => exact (Kd.R_reads' HO144.out).2.1); rintro e w13 ⟨rfl, hb⟩; have n0_ := Aside0.mk (Kd.R_below (by (with_reducible repeat (first | apply Kd.R_alloc | apply Kd.R_drewN | apply Kd.R_drew)); exact HO137.out) hb); have n1_ := Aside0.mk (Kd.R_below (by (with_reducible repeat (first | apply Kd.R_alloc | apply Kd.R_drewN | apply Kd.R_drew)); exact HO140.out) hb); have n2_ := Aside0.mk (Kd.R_below (by (with_reducible repeat (first | apply Kd.R_alloc | apply Kd.R_drewN | apply Kd.R_drew)); exact HO144.out) hb); have n3_ := Aside0.mk (below_step (by repeat (first | (with_reducible first | exact HB.out | apply below_alloc | apply pw_below_drewN | apply below_drew1) | exact HB.out)) hb); clear HO137; clear HO140; clear HO144; clear HB; have HO137 := n0_; have HO140 := n1_; have HO144 := n2_; have HB := n3_; clear n0_ n1_ n2_ n3_; (try clear hb); (try clear hb2); (try clear hk); (try clear hi)))
    go_ret
    exact ⟨by first | rfl | (simp [errW_none, errW_some] <;> rfl) | (simp [*, errW_none, errW_some] <;> rfl), by repeat (first | (with_reducible first | exact HB.out | apply below_alloc | apply pw_below_drewN | apply below_drew1) | exact HB.out)⟩
  · replace c3 := Bool.eq_false_iff.mpr c3
    subst c3
    have H1 : (some false) = some r := by rw [if_neg (show ¬ (false = true) by decide)] at H; exact H
    clear H
    have H := H1
    clear H1
    obtain rfl := Option.some.inj H
    go_enter Tryd.func12, Tryd.ntmps12
    go_wp2_with (first | ((with_reducible refine gate_callee (f := 10) rfl ?_); refine goesL_ (some 1) rfl rfl Tryd.func10 (by kernel_rfl) rfl #[.int .i64 123] rfl (by (try simp only [List.map_toArray, List.map_cons, List.map_nil]); first | done | rfl | (simp only [List.length_drop, List.length_take]; rfl)) ?_; (with_reducible refine (impl_NumberOfInt64.calls 123 t135 _ A1.out ?side99).mono ?_); (case side99 => exact HT.out _ (by repeat (first | (with_reducible first | exact HB.out | apply below_alloc | apply pw_below_drewN | apply below_drew1) | exact HB.out))); rintro e w14 ⟨v136, rfl, ho0, hb⟩; refine ⟨_, rfl, ?_⟩; have n0_ := Aside0.mk (Kd.R_lower ho0 (below_size (by repeat (first | (with_reducible first | exact HB.out | apply below_alloc | apply pw_below_drewN | apply below_drew1) | exact HB.out)))); have n1_ := Aside0.mk (below_step (by repeat (first | (with_reducible first | exact HB.out | apply below_alloc | apply pw_below_drewN | apply below_drew1) | exact HB.out)) hb); clear HB; have HO137 := n0_; have HB := n1_; clear n0_ n1_; (try clear hb); (try clear hb2); (try clear hk); (try clear hi); (try clear ho0)) | ((with_reducible refine gate_dst (N := 2) rfl ?_); (try (refine gate_guard (by rfl) ?_; dsimp only)); refine Kd.R_lit (Kd.int .u8) _ 5 ?hg (N := 2) ?hd (xs := ([194, 2, 24] : List Int)) (inner := [.int .u8 194, .int .u8 2, .int .u8 24]) (ok := fun _ => True) (okp := fun _ => True) ?hr ?hp (fun _ hk => hk) trivial (Below.refl _ _) (Nat.le_refl _) (by simp) ?_; (case hd => rfl); (case hg => rfl); (case hr => first | (go_simp; done) | (go_simp; rfl)); (case hp => exact (Reps.one (show Kd.M (Kd.int .u8) _ _ _ 194 [.int .u8 194] from rfl) (Reps.one (show Kd.M (Kd.int .u8) _ _ _ 2 [.int .u8 2] from rfl) (Reps.one (show Kd.M (Kd.int .u8) _ _ _ 24 [.int .u8 24] from rfl) (Reps.none _ _))))); intro v139 w15 ho16 hb hg_ hnew_; clear hg_ hnew_; (first | rw [← Ny138.out] at ho16 | (simp only [Int.reduceToNat] at ho16; rw [← Ny138.out] at ho16)); have n0_ := Aside0.mk (Kd.R_elder' (by (with_reducible repeat (first | apply Kd.R_alloc | apply Kd.R_drewN | apply Kd.R_drew)); exact HO137.out) (Kd.R_base ho16) hb); have n1_ := Aside0.mk (Kd.R_lower (Kd.R_new' ho16 (Kd.R_lt (by (with_reducible repeat (first | apply Kd.R_alloc | apply Kd.R_drewN | apply Kd.R_drew)); exact HO137.out))) (below_size (by repeat (first | (with_reducible first | exact HB.out | apply below_alloc | apply pw_below_drewN | apply below_drew1) | exact HB.out)))); have n2_ := Aside0.mk (below_step (by repeat (first | (with_reducible first | exact HB.out | apply below_alloc | apply pw_below_drewN | apply below_drew1) | exact HB.out)) hb); clear HO137; clear HB; have HO137 := n0_; have HO140 := n1_; have HB := n2_; clear n0_ n1_ n2_; clear hb ho16; obtain ⟨Ao17, co17, eo17⟩ := Kd.R_slice HO137.out; subst eo17; obtain ⟨Ao18, co18, eo18⟩ := Kd.R_slice HO140.out; subst eo18) | ((with_reducible refine gate_callee (f := 14) rfl ?_); refine goesL_ (some 3) rfl rfl Tryd.func14 (by kernel_rfl) rfl #[.slice Ao17 t135.length co17, .slice Ao18 y138.length co18] rfl (by (try simp only [List.map_toArray, List.map_cons, List.map_nil]); first | done | rfl | (simp only [List.length_drop, List.length_take]; rfl)) ?_; (with_reducible refine (spec_NumberSame.calls _ _ t135 _ _ y138 false _ ?side1 ?side2 ?side3 ?side4 A2.out).mono ?_); (case side1 => repeat (first | exact (Kd.R_reads' HO137.out).2.2 | (with_reducible refine Kd.C_alloc ?_ _) | (with_reducible refine Kd.C_drewN ?_ _) | (with_reducible refine Kd.C_drew ?_))); (case side2 => exact (Kd.R_reads' HO137.out).2.1); (case side3 => repeat (first | exact (Kd.R_reads' HO140.out).2.2 | (with_reducible refine Kd.C_alloc ?_ _) | (with_reducible refine Kd.C_drewN ?_ _) | (with_reducible refine Kd.C_drew ?_))); (case side4 => exact (Kd.R_reads' HO140.out).2.1); rintro e w' ⟨rfl, ⟨nd, rfl⟩⟩; refine ⟨_, rfl, ?_⟩))
    go_ret
    exact ⟨by first | rfl | (simp [errW_none, errW_some] <;> rfl) | (simp [*, errW_none, errW_some] <;> rfl), by repeat (first | (with_reducible first | exact HB.out | apply below_alloc | apply pw_below_drewN | apply below_drew1) | exact HB.out)⟩

-- GIVEN: function 18 (bytes_Compare)

-- GIVEN: function 46 (converters_compareBytes)

/-! ### converters_CompareBytes: function 37 -/
def converters_CompareBytes.f (l0 : List Int) (l1 : List Int) : Option (Int) := (converters_compareBytes.f l0 l1).bind fun t146 => (some t146)
set_option maxHeartbeats 8000000 in
set_option maxRecDepth 100000 in
theorem converters_CompareBytes.calls (A0 : Option Addr) (c0 : Nat) (l0 : List Int) (A1 : Option Addr) (c1 : Nat) (l1 : List Int) (r : Int) (w : World) (hr0 : Kd.C (Kd.int .u8) w A0 l0.length l0) (hc0 : l0.length ≤ c0) (hr1 : Kd.C (Kd.int .u8) w A1 l1.length l1) (hc1 : l1.length ≤ c1) (h : converters_CompareBytes.f l0 l1 = some r) :
    Calls Tryd.prog 37 #[.slice A0 l0.length c0, .slice A1 l1.length c1] w fun e w' => e = .returned (.int .i64 r) ∧ Drawn0 w w' := by
  have HR0 := Aside0.mk hr0
  have HC0 := Aside0.mk hc0
  clear hr0 hc0
  have HR1 := Aside0.mk hr1
  have HC1 := Aside0.mk hc1
  clear hr1 hc1
  have H : ((converters_compareBytes.f l0 l1).bind fun t146 => (some t146)) = some r := h
  clear h
  replace H := Option.bind_eq_some_iff.mp H
  obtain ⟨t146, A30, H⟩ := H
  replace H : (some t146) = some r := H
  have A3 := Aside0.mk A30
  clear A30
  obtain rfl := Option.some.inj H
  go_enter Tryd.func37, Tryd.ntmps37
  go_wp2_with (first | ((with_reducible refine gate_callee (f := 46) rfl ?_); refine goesL_ (some 7) rfl rfl Tryd.func46 (by kernel_rfl) rfl #[.slice A0 l0.length c0, .slice A1 l1.length c1] rfl (by (try simp only [List.map_toArray, List.map_cons, List.map_nil]); first | done | rfl | (simp only [List.length_drop, List.length_take]; rfl)) ?_; (with_reducible refine (converters_compareBytes.calls _ _ l0 _ _ l1 t146 _ ?side1 ?side2 ?side3 ?side4 A3.out).mono ?_); (case side1 => repeat (first | exact HR0.out | (with_reducible refine Kd.C_alloc ?_ _) | (with_reducible refine Kd.C_drewN ?_ _) | (with_reducible refine Kd.C_drew ?_))); (case side2 => exact HC0.out); (case side3 => repeat (first | exact HR1.out | (with_reducible refine Kd.C_alloc ?_ _) | (with_reducible refine Kd.C_drewN ?_ _) | (with_reducible refine Kd.C_drew ?_))); (case side4 => exact HC1.out); rintro e w' ⟨rfl, ⟨nd, rfl⟩⟩; refine ⟨_, rfl, ?_⟩))
  go_ret
  exact ⟨by first | rfl | (simp; done) | (simp [*]; done), by repeat (first | exact Drawn0.refl _ | apply Drawn0.step)⟩

/-! ### impl_Compared: function 26 -/
def impl_Compared.f (l0 : List Int) (l1 : List Int) : Option (Int) := (bytes_Clone.f l0).bind fun t147 => ((bytes_Clone.f l1).bind fun t150 => ((converters_CompareBytes.f t147 t150).bind fun t153 => (some t153)))
set_option maxHeartbeats 8000000 in
set_option maxRecDepth 100000 in
theorem impl_Compared.calls (A0 : Option Addr) (c0 : Nat) (l0 : List Int) (A1 : Option Addr) (c1 : Nat) (l1 : List Int) (r : Int) (w : World) (hr0 : Kd.C (Kd.int .u8) w A0 l0.length l0) (hc0 : l0.length ≤ c0) (hr1 : Kd.C (Kd.int .u8) w A1 l1.length l1) (hc1 : l1.length ≤ c1) (h : impl_Compared.f l0 l1 = some r) :
    Calls Tryd.prog 26 #[.slice A0 l0.length c0, .slice A1 l1.length c1] w fun e w' => e = .returned (.int .i64 r) ∧ Below w.heap.size w w' := by
  have HR0 := Aside0.mk hr0
  have HC0 := Aside0.mk hc0
  clear hr0 hc0
  have HR1 := Aside0.mk hr1
  have HC1 := Aside0.mk hc1
  clear hr1 hc1
  have HB := Aside0.mk (Below.refl w.heap.size w)
  have H : ((bytes_Clone.f l0).bind fun t147 => ((bytes_Clone.f l1).bind fun t150 => ((converters_CompareBytes.f t147 t150).bind fun t153 => (some t153)))) = some r := h
  clear h
  replace H := Option.bind_eq_some_iff.mp H
  obtain ⟨t147, A30, H⟩ := H
  replace H : ((bytes_Clone.f l1).bind fun t150 => ((converters_CompareBytes.f t147 t150).bind fun t153 => (some t153))) = some r := H
  have A3 := Aside0.mk A30
  clear A30
  replace H := Option.bind_eq_some_iff.mp H
  obtain ⟨t150, A40, H⟩ := H
  replace H : ((converters_CompareBytes.f t147 t150).bind fun t153 => (some t153)) = some r := H
  have A4 := Aside0.mk A40
  clear A40
  replace H := Option.bind_eq_some_iff.mp H
  obtain ⟨t153, A50, H⟩ := H
  replace H : (some t153) = some r := H
  have A5 := Aside0.mk A50
  clear A50
  obtain rfl := Option.some.inj H
  go_enter Tryd.func26, Tryd.ntmps26
  go_wp2_with (first | ((with_reducible refine gate_callee (f := 27) rfl ?_); refine goesL_ (some 6) rfl rfl Tryd.func27 (by kernel_rfl) rfl #[.slice A0 l0.length c0] rfl (by (try simp only [List.map_toArray, List.map_cons, List.map_nil]); first | done | rfl | (simp only [List.length_drop, List.length_take]; rfl)) ?_; (with_reducible refine (bytes_Clone.calls _ _ l0 t147 _ ?side1 ?side2 A3.out).mono ?_); (case side1 => repeat (first | exact HR0.out | (with_reducible refine Kd.C_alloc ?_ _) | (with_reducible refine Kd.C_drewN ?_ _) | (with_reducible refine Kd.C_drew ?_))); (case side2 => exact HC0.out); rintro e w6 ⟨v148, rfl, ho0, hb⟩; refine ⟨_, rfl, ?_⟩; have n0_ := Aside0.mk (Kd.R_lower ho0 (below_size (by repeat (first | (with_reducible first | exact HB.out | apply below_alloc | apply pw_below_drewN | apply below_drew1) | exact HB.out)))); have n1_ := Aside0.mk (below_step (by repeat (first | (with_reducible first | exact HB.out | apply below_alloc | apply pw_below_drewN | apply below_drew1) | exact HB.out)) hb); clear HB; have HO149 := n0_; have HB := n1_; clear n0_ n1_; (try clear hb); (try clear hb2); (try clear hk); (try clear hi); (try clear ho0)) | ((with_reducible refine gate_callee (f := 27) rfl ?_); refine goesL_ (some 8) rfl rfl Tryd.func27 (by kernel_rfl) rfl #[.slice A1 l1.length c1] rfl (by (try simp only [List.map_toArray, List.map_cons, List.map_nil]); first | done | rfl | (simp only [List.length_drop, List.length_take]; rfl)) ?_; (with_reducible refine (bytes_Clone.calls _ _ l1 t150 _ ?side1 ?side2 A4.out).mono ?_); (case side1 => repeat (first | exact (Kd.C_below HR1.out HB.out) | (with_reducible refine Kd.C_alloc ?_ _) | (with_reducible refine Kd.C_drewN ?_ _) | (with_reducible refine Kd.C_drew ?_))); (case side2 => exact HC1.out); rintro e w7 ⟨v151, rfl, ho0, hb⟩; refine ⟨_, rfl, ?_⟩; have n0_ := Aside0.mk (Kd.R_elder' (by (with_reducible repeat (first | apply Kd.R_alloc | apply Kd.R_drewN | apply Kd.R_drew)); exact HO149.out) (Kd.R_base ho0) hb); have n1_ := Aside0.mk (Kd.R_lower (Kd.R_new' ho0 (Kd.R_lt (by (with_reducible repeat (first | apply Kd.R_alloc | apply Kd.R_drewN | apply Kd.R_drew)); exact HO149.out))) (below_size (by repeat (first | (with_reducible first | exact HB.out | apply below_alloc | apply pw_below_drewN | apply below_drew1) | exact HB.out)))); have n2_ := Aside0.mk (below_step (by repeat (first | (with_reducible first | exact HB.out | apply below_alloc | apply pw_below_drewN | apply below_drew1) | exact HB.out)) hb); clear HO149; clear HB; have HO149 := n0_; have HO152 := n1_; have HB := n2_; clear n0_ n1_ n2_; (try clear hb); (try clear hb2); (try clear hk); (try clear hi); (try clear ho0); obtain ⟨Ao8, co8, eo8⟩ := Kd.R_slice HO149.out; subst eo8; obtain ⟨Ao9, co9, eo9⟩ := Kd.R_slice HO152.out; subst eo9) | ((with_reducible refine gate_callee (f := 37) rfl ?_); refine goesL_ (some 9) rfl rfl Tryd.func37 (by kernel_rfl) rfl #[.slice Ao8 t147.length co8, .slice Ao9 t150.length co9] rfl (by (try simp only [List.map_toArray, List.map_cons, List.map_nil]); first | done | rfl | (simp only [List.length_drop, List.length_take]; rfl)) ?_; (with_reducible refine (converters_CompareBytes.calls _ _ t147 _ _ t150 t153 _ ?side1 ?side2 ?side3 ?side4 A5.out).mono ?_); (case side1 => repeat (first | exact (Kd.R_reads' HO149.out).2.2 | (with_reducible refine Kd.C_alloc ?_ _) | (with_reducible refine Kd.C_drewN ?_ _) | (with_reducible refine Kd.C_drew ?_))); (case side2 => exact (Kd.R_reads' HO149.out).2.1); (case side3 => repeat (first | exact (Kd.R_reads' HO152.out).2.2 | (with_reducible refine Kd.C_alloc ?_ _) | (with_reducible refine Kd.C_drewN ?_ _) | (with_reducible refine Kd.C_drew ?_))); (case side4 => exact (Kd.R_reads' HO152.out).2.1); rintro e w' ⟨rfl, ⟨nd, rfl⟩⟩; refine ⟨_, rfl, ?_⟩))
  go_ret
  exact ⟨by first | rfl | (simp [errW_none, errW_some] <;> rfl) | (simp [*, errW_none, errW_some] <;> rfl), by repeat (first | (with_reducible first | exact HB.out | apply below_alloc | apply pw_below_drewN | apply below_drew1) | exact HB.out)⟩

/-! ### laws_FnNumberCompared: function 8 -/
mutual
def laws_FnNumberCompared.j0 : Nat → List Int → List Int → Int → Int → Bool → Option (Bool)
  | 0, _, _, _, _, _ => none
  | k + 1, x0, x1, x2, x3, x19 => if x19 = true then (some true) else (if (x0.length : Int) > 2000 then (laws_FnNumberCompared.j1 k x0 x1 x2 x3 true) else (laws_FnNumberCompared.j1 k x0 x1 x2 x3 (decide ((x1.length : Int) > 2000))))
def laws_FnNumberCompared.j1 : Nat → List Int → List Int → Int → Int → Bool → Option (Bool)
  | 0, _, _, _, _, _ => none
  | k + 1, x0, x1, x2, x3, x27 => if x27 = true then ((laws_numberAwake.f k).bind fun t154 => (some t154)) else ((bytes_Clone.f x0).bind fun t155 => ((bytes_Clone.f x1).bind fun t158 => ((impl_Compared.f t155 t158).bind fun t161 => ((bytes_Compare.f x0 x1).bind fun t162 => (if ((decide (t161 < 0)) != (decide (t162 < 0))) = true then (laws_FnNumberCompared.j2 k x2 x3 true) else (laws_FnNumberCompared.j2 k x2 x3 ((decide (t161 > 0)) != (decide (t162 > 0)))))))))
def laws_FnNumberCompared.j2 : Nat → Int → Int → Bool → Option (Bool)
  | 0, _, _, _ => none
  | k + 1, x2, x3, x48 => if x48 = true then (none) else ((impl_NumberOfInt64.f x2).bind fun t163 => ((impl_NumberOfInt64.f x3).bind fun t166 => ((impl_Compared.f t163 t166).bind fun t169 => (if ((decide (t169 < 0)) == (decide (x2 < x3))) = true then (if ((decide (t169 > 0)) == (decide (x2 > x3))) = true then ((impl_Compared.f (([1] : List Int)) (([2] : List Int))).bind fun t176 => (if t176 < 0 then ((laws_numberAwake.f k).bind fun t177 => (some t177)) else (none))) else (none)) else (none)))))
end
def laws_FnNumberCompared.f (k : Nat) (l0 : List Int) (l1 : List Int) (a2 : Int) (a3 : Int) : Option (Bool) := if (l0.length : Int) > 2147483647 then (laws_FnNumberCompared.j0 k l0 l1 a2 a3 true) else (laws_FnNumberCompared.j0 k l0 l1 a2 a3 (decide ((l1.length : Int) > 2147483647)))
theorem laws_FnNumberCompared.mono_l : ∀ k, (∀ y0 y1 y2 y3 y4, LeO (laws_FnNumberCompared.j0 k y0 y1 y2 y3 y4) (laws_FnNumberCompared.j0 (k + 1) y0 y1 y2 y3 y4)) ∧ (∀ y0 y1 y2 y3 y4, LeO (laws_FnNumberCompared.j1 k y0 y1 y2 y3 y4) (laws_FnNumberCompared.j1 (k + 1) y0 y1 y2 y3 y4)) ∧ (∀ y0 y1 y2, LeO (laws_FnNumberCompared.j2 k y0 y1 y2) (laws_FnNumberCompared.j2 (k + 1) y0 y1 y2))
  | 0 => ⟨fun _ _ _ _ _ r h => by simp [laws_FnNumberCompared.j0] at h, fun _ _ _ _ _ r h => by simp [laws_FnNumberCompared.j1] at h, fun _ _ _ r h => by simp [laws_FnNumberCompared.j2] at h⟩
  | k + 1 => by
    obtain ⟨ih0, ih1, ih2⟩ := laws_FnNumberCompared.mono_l k
    refine ⟨?_, ?_, ?_⟩
    · intro y0 y1 y2 y3 y4
      unfold laws_FnNumberCompared.j0
      repeat' first
      | (with_reducible exact ih0 _ _ _ _ _)
      | (with_reducible exact ih1 _ _ _ _ _)
      | (with_reducible exact ih2 _ _ _)
      | (with_reducible exact laws_numberAwake.mono _)
      | (with_reducible exact LeO.refl _)
      | (with_reducible exact LeO.none _)
      | (with_reducible refine LeO.ite ?_ ?_)
      | (with_reducible refine LeO.bind ?_ (fun _ => ?_))
      | exact ih0 _ _ _ _ _
      | exact ih1 _ _ _ _ _
      | exact ih2 _ _ _
      | exact laws_numberAwake.mono _
      | exact LeO.none _
      | refine LeO.ite ?_ ?_
      | refine LeO.bind ?_ (fun _ => ?_)
    · intro y0 y1 y2 y3 y4
      unfold laws_FnNumberCompared.j1
      repeat' first
      | (with_reducible exact ih0 _ _ _ _ _)
      | (with_reducible exact ih1 _ _ _ _ _)
      | (with_reducible exact ih2 _ _ _)
      | (with_reducible exact laws_numberAwake.mono _)
      | (with_reducible exact LeO.refl _)
      | (with_reducible exact LeO.none _)
      | (with_reducible refine LeO.ite ?_ ?_)
      | (with_reducible refine LeO.bind ?_ (fun _ => ?_))
      | exact ih0 _ _ _ _ _
      | exact ih1 _ _ _ _ _
      | exact ih2 _ _ _
      | exact laws_numberAwake.mono _
      | exact LeO.none _
      | refine LeO.ite ?_ ?_
      | refine LeO.bind ?_ (fun _ => ?_)
    · intro y0 y1 y2
      unfold laws_FnNumberCompared.j2
      repeat' first
      | (with_reducible exact ih0 _ _ _ _ _)
      | (with_reducible exact ih1 _ _ _ _ _)
      | (with_reducible exact ih2 _ _ _)
      | (with_reducible exact laws_numberAwake.mono _)
      | (with_reducible exact LeO.refl _)
      | (with_reducible exact LeO.none _)
      | (with_reducible refine LeO.ite ?_ ?_)
      | (with_reducible refine LeO.bind ?_ (fun _ => ?_))
      | exact ih0 _ _ _ _ _
      | exact ih1 _ _ _ _ _
      | exact ih2 _ _ _
      | exact laws_numberAwake.mono _
      | exact LeO.none _
      | refine LeO.ite ?_ ?_
      | refine LeO.bind ?_ (fun _ => ?_)
theorem laws_FnNumberCompared.mono : ∀ a0 a1 a2 a3 k, LeO (laws_FnNumberCompared.f k a0 a1 a2 a3) (laws_FnNumberCompared.f (k + 1) a0 a1 a2 a3) := by
  intro a0 a1 a2 a3 k
  obtain ⟨ih0, ih1, ih2⟩ := laws_FnNumberCompared.mono_l k
  unfold laws_FnNumberCompared.f
  repeat' first
      | (with_reducible exact ih0 _ _ _ _ _)
      | (with_reducible exact ih1 _ _ _ _ _)
      | (with_reducible exact ih2 _ _ _)
      | (with_reducible exact laws_numberAwake.mono _)
      | (with_reducible exact LeO.refl _)
      | (with_reducible exact LeO.none _)
      | (with_reducible refine LeO.ite ?_ ?_)
      | (with_reducible refine LeO.bind ?_ (fun _ => ?_))
      | exact ih0 _ _ _ _ _
      | exact ih1 _ _ _ _ _
      | exact ih2 _ _ _
      | exact laws_numberAwake.mono _
      | exact LeO.none _
      | refine LeO.ite ?_ ?_
      | refine LeO.bind ?_ (fun _ => ?_)
set_option maxHeartbeats 8000000 in
set_option maxRecDepth 100000 in
theorem laws_FnNumberCompared.calls (k : Nat) (A0 : Option Addr) (c0 : Nat) (l0 : List Int) (A1 : Option Addr) (c1 : Nat) (l1 : List Int) (a2 : Int) (a3 : Int) (r : Bool) (w : World) (hr0 : Kd.C (Kd.int .u8) w A0 l0.length l0) (hc0 : l0.length ≤ c0) (hr1 : Kd.C (Kd.int .u8) w A1 l1.length l1) (hc1 : l1.length ≤ c1) (h : laws_FnNumberCompared.f k l0 l1 a2 a3 = some r) (htab : Tab w) :
    Calls Tryd.prog 8 #[.slice A0 l0.length c0, .slice A1 l1.length c1, .int .i64 a2, .int .i64 a3] w fun e w' => e = .returned (.bool r) ∧ Below w.heap.size w w' := by
  have HT := Aside0.mk (tab_all htab)
  clear htab
  have HR0 := Aside0.mk hr0
  have HC0 := Aside0.mk hc0
  clear hr0 hc0
  have HR1 := Aside0.mk hr1
  have HC1 := Aside0.mk hc1
  clear hr1 hc1
  have HB := Aside0.mk (Below.refl w.heap.size w)
  have H : (if (l0.length : Int) > 2147483647 then (laws_FnNumberCompared.j0 k l0 l1 a2 a3 true) else (laws_FnNumberCompared.j0 k l0 l1 a2 a3 (decide ((l1.length : Int) > 2147483647)))) = some r := h
  clear h
  have HC5 := Aside0.mk H
  clear H
  go_enter Tryd.func8, Tryd.ntmps8
  go_upto_region 1 with (fail)
  go_cut [19] (fun v19 wc => ∃ (kq : Nat) (x19_4 : Bool), v19 = .bool x19_4 ∧ Aside0 (laws_FnNumberCompared.j0 kq l0 l1 a2 a3 x19_4 = some r) ∧ Aside0 (kq ≤ k) ∧ Aside0 (Below w.heap.size w wc))
  case first =>
    have H := HC5.out
    clear HC5
    by_cases c6 : (l0.length : Int) > 2147483647
    · rw [if_pos c6] at H
      have c6b0 : decide (2147483647 < (l0.length : Int)) = true := decide_eq_true c6
      have c6b1 : decide (2147483647 < l0.length) = true := decide_eq_true (by omega)
      clear c6
      (first | rw [c6b0] | (simp only [i64_w, i32_w]; rw [c6b0]) | skip)
      have H' := Aside0.mk H
      clear H
      go_wp2
      go_meet
      case rel => exact ⟨_, (true), (by first | rfl | (simp; done) | (simp [*]; done)), H', ⟨by first | omega | exact Nat.le_refl _⟩, ⟨by repeat (first | (with_reducible first | exact HB.out | apply below_alloc | apply pw_below_drewN | apply below_drew1) | exact HB.out)⟩⟩
    · rw [if_neg c6] at H
      have c6b0 : decide (2147483647 < (l0.length : Int)) = false := decide_eq_false c6
      have c6b1 : decide (2147483647 < l0.length) = false := decide_eq_false (by omega)
      clear c6
      (first | rw [c6b0] | (simp only [i64_w, i32_w]; rw [c6b0]) | skip)
      have H' := Aside0.mk H
      clear H
      go_wp2
      go_meet
      case rel => exact ⟨_, (decide ((l1.length : Int) > 2147483647)), (by first | rfl | (simp; done) | (simp [*]; done)), H', ⟨by first | omega | exact Nat.le_refl _⟩, ⟨by repeat (first | (with_reducible first | exact HB.out | apply below_alloc | apply pw_below_drewN | apply below_drew1) | exact HB.out)⟩⟩
  case rest =>
    clear HC5
    try clear c1
    try clear p2
    try clear c6
    try clear c6b0
    try clear c6b1
    obtain ⟨kq, x19_4, rfl, HA, HJ4, HB⟩ := hcut
    cases kq with
    | zero => exact absurd HA.out (by simp [laws_FnNumberCompared.j0])
    | succ kj4 =>
      have H := HA.out
      clear HA
      simp only [laws_FnNumberCompared.j0] at H
      by_cases c7 : x19_4 = true
      · subst c7
        have H1 : (some true) = some r := by rw [if_pos rfl] at H; exact H
        clear H
        have H := H1
        clear H1
        obtain rfl := Option.some.inj H
        go_wp2
        go_ret
        exact ⟨by first | rfl | (simp [errW_none, errW_some] <;> rfl) | (simp [*, errW_none, errW_some] <;> rfl), by repeat (first | (with_reducible first | exact HB.out | apply below_alloc | apply pw_below_drewN | apply below_drew1) | exact HB.out)⟩
      · replace c7 := Bool.eq_false_iff.mpr c7
        subst c7
        have H1 : (if (l0.length : Int) > 2000 then (laws_FnNumberCompared.j1 kj4 l0 l1 a2 a3 true) else (laws_FnNumberCompared.j1 kj4 l0 l1 a2 a3 (decide ((l1.length : Int) > 2000)))) = some r := by rw [if_neg (show ¬ (false = true) by decide)] at H; exact H
        clear H
        have H := H1
        clear H1
        have HC8 := Aside0.mk H
        clear H
        go_upto_region 3 with (fail)
        go_cut [27] (fun v27 wc => ∃ (kq : Nat) (x27_7 : Bool), v27 = .bool x27_7 ∧ Aside0 (laws_FnNumberCompared.j1 kq l0 l1 a2 a3 x27_7 = some r) ∧ Aside0 (kq ≤ kj4) ∧ Aside0 (Below w.heap.size w wc))
        case first =>
          have H := HC8.out
          clear HC8
          by_cases c9 : (l0.length : Int) > 2000
          · rw [if_pos c9] at H
            have c9b0 : decide (2000 < (l0.length : Int)) = true := decide_eq_true c9
            have c9b1 : decide (2000 < l0.length) = true := decide_eq_true (by omega)
            clear c9
            (first | rw [c9b0] | (simp only [i64_w, i32_w]; rw [c9b0]) | skip)
            have H' := Aside0.mk H
            clear H
            go_wp2
            go_meet
            case rel => exact ⟨_, (true), (by first | rfl | (simp; done) | (simp [*]; done)), H', ⟨by have := HJ4.out; first | omega | exact Nat.le_refl _⟩, ⟨by repeat (first | (with_reducible first | exact HB.out | apply below_alloc | apply pw_below_drewN | apply below_drew1) | exact HB.out)⟩⟩
          · rw [if_neg c9] at H
            have c9b0 : decide (2000 < (l0.length : Int)) = false := decide_eq_false c9
            have c9b1 : decide (2000 < l0.length) = false := decide_eq_false (by omega)
            clear c9
            (first | rw [c9b0] | (simp only [i64_w, i32_w]; rw [c9b0]) | skip)
            have H' := Aside0.mk H
            clear H
            go_wp2
            go_meet
            case rel => exact ⟨_, (decide ((l1.length : Int) > 2000)), (by first | rfl | (simp; done) | (simp [*]; done)), H', ⟨by have := HJ4.out; first | omega | exact Nat.le_refl _⟩, ⟨by repeat (first | (with_reducible first | exact HB.out | apply below_alloc | apply pw_below_drewN | apply below_drew1) | exact HB.out)⟩⟩
        case rest =>
          clear HC8
          try clear c1
          try clear p2
          try clear c6
          try clear c6b0
          try clear c6b1
          try clear c7
          try clear c8
          try clear c9
          try clear c9b0
          try clear c9b1
          try clear p2
          obtain ⟨kq, x27_7, rfl, HA, HJ7, HB⟩ := hcut
          cases kq with
          | zero => exact absurd HA.out (by simp [laws_FnNumberCompared.j1])
          | succ kj7 =>
            have H := HA.out
            clear HA
            simp only [laws_FnNumberCompared.j1] at H
            by_cases c10 : x27_7 = true
            · subst c10
              have H1 : ((laws_numberAwake.f kj7).bind fun t154 => (some t154)) = some r := by rw [if_pos rfl] at H; exact H
              clear H
              have H := H1
              clear H1
              replace H := Option.bind_eq_some_iff.mp H
              obtain ⟨t154, A110, H⟩ := H
              replace H : (some t154) = some r := H
              have A11 := Aside0.mk A110
              clear A110
              obtain rfl := Option.some.inj H
              go_wp2_with (first | ((with_reducible refine gate_callee (f := 12) rfl ?_); refine goesL_ (some 28) rfl rfl Tryd.func12 (by kernel_rfl) rfl #[] rfl (by (try simp only [List.map_toArray, List.map_cons, List.map_nil]); first | done | rfl | (simp only [List.length_drop, List.length_take]; rfl)) ?_; (with_reducible refine (laws_numberAwake.calls kj7  t154 _ A11.out ?side99).mono ?_); (case side99 => exact HT.out _ (by repeat (first | (with_reducible first | exact HB.out | apply below_alloc | apply pw_below_drewN | apply below_drew1) | exact HB.out))); rintro e w12 ⟨rfl, hb⟩; refine ⟨_, rfl, ?_⟩; have n0_ := Aside0.mk (below_step (by repeat (first | (with_reducible first | exact HB.out | apply below_alloc | apply pw_below_drewN | apply below_drew1) | exact HB.out)) hb); clear HB; have HB := n0_; clear n0_; (try clear hb); (try clear hb2); (try clear hk); (try clear hi)))
              go_ret
              exact ⟨by first | rfl | (simp [errW_none, errW_some] <;> rfl) | (simp [*, errW_none, errW_some] <;> rfl), by repeat (first | (with_reducible first | exact HB.out | apply below_alloc | apply pw_below_drewN | apply below_drew1) | exact HB.out)⟩
            · replace c10 := Bool.eq_false_iff.mpr c10
              subst c10
              have H1 : ((bytes_Clone.f l0).bind fun t155 => ((bytes_Clone.f l1).bind fun t158 => ((impl_Compared.f t155 t158).bind fun t161 => ((bytes_Compare.f l0 l1).bind fun t162 => (if ((decide (t161 < 0)) != (decide (t162 < 0))) = true then (laws_FnNumberCompared.j2 kj7 a2 a3 true) else (laws_FnNumberCompared.j2 kj7 a2 a3 ((decide (t161 > 0)) != (decide (t162 > 0))))))))) = some r := by rw [if_neg (show ¬ (false = true) by decide)] at H; exact H
              clear H
              have H := H1
              clear H1
              replace H := Option.bind_eq_some_iff.mp H
              obtain ⟨t155, A130, H⟩ := H
              replace H : ((bytes_Clone.f l1).bind fun t158 => ((impl_Compared.f t155 t158).bind fun t161 => ((bytes_Compare.f l0 l1).bind fun t162 => (if ((decide (t161 < 0)) != (decide (t162 < 0))) = true then (laws_FnNumberCompared.j2 kj7 a2 a3 true) else (laws_FnNumberCompared.j2 kj7 a2 a3 ((decide (t161 > 0)) != (decide (t162 > 0)))))))) = some r := H
              have A13 := Aside0.mk A130
              clear A130
              replace H := Option.bind_eq_some_iff.mp H
              obtain ⟨t158, A140, H⟩ := H
              replace H : ((impl_Compared.f t155 t158).bind fun t161 => ((bytes_Compare.f l0 l1).bind fun t162 => (if ((decide (t161 < 0)) != (decide (t162 < 0))) = true then (laws_FnNumberCompared.j2 kj7 a2 a3 true) else (laws_FnNumberCompared.j2 kj7 a2 a3 ((decide (t161 > 0)) != (decide (t162 > 0))))))) = some r := H
              have A14 := Aside0.mk A140
              clear A140
              replace H := Option.bind_eq_some_iff.mp H
              obtain ⟨t161, A150, H⟩ := H
              replace H : ((bytes_Compare.f l0 l1).bind fun t162 => (if ((decide (t161 < 0)) != (decide (t162 < 0))) = true then (laws_FnNumberCompared.j2 kj7 a2 a3 true) else (laws_FnNumberCompared.j2 kj7 a2 a3 ((decide (t161 > 0)) != (decide (t162 > 0)))))) = some r := H
              have A15 := Aside0.mk A150
              clear A150
              replace H := Option.bind_eq_some_iff.mp H
              obtain ⟨t162, A160, H⟩ := H
              replace H : (if ((decide (t161 < 0)) != (decide (t162 < 0))) = true then (laws_FnNumberCompared.j2 kj7 a2 a3 true) else (laws_FnNumberCompared.j2 kj7 a2 a3 ((decide (t161 > 0)) != (decide (t162 > 0))))) = some r := H
              have A16 := Aside0.mk A160
              clear A160
              have HC17 := Aside0.mk H
              clear H
              go_upto_region 6 with (first | ((with_reducible refine gate_callee (f := 27) rfl ?_); refine goesL_ (some 30) rfl rfl Tryd.func27 (by kernel_rfl) rfl #[.slice A0 l0.length c0] rfl (by (try simp only [List.map_toArray, List.map_cons, List.map_nil]); first | done | rfl | (simp only [List.length_drop, List.length_take]; rfl)) ?_; (with_reducible refine (bytes_Clone.calls _ _ l0 t155 _ ?side1 ?side2 A13.out).mono ?_); (case side1 => repeat (first | exact (Kd.C_below HR0.out HB.out) | (with_reducible refine Kd.C_alloc ?_ _) | (with_reducible refine Kd.C_drewN ?_ _) | (with_reducible refine Kd.C_drew ?_))); (case side2 => exact HC0.out); rintro e w18 ⟨v156, rfl, ho0, hb⟩; refine ⟨_, rfl, ?_⟩; have n0_ := Aside0.mk (Kd.R_lower ho0 (below_size (by repeat (first | (with_reducible first | exact HB.out | apply below_alloc | apply pw_below_drewN | apply below_drew1) | exact HB.out)))); have n1_ := Aside0.mk (below_step (by repeat (first | (with_reducible first | exact HB.out | apply below_alloc | apply pw_below_drewN | apply below_drew1) | exact HB.out)) hb); clear HB; have HO157 := n0_; have HB := n1_; clear n0_ n1_; (try clear hb); (try clear hb2); (try clear hk); (try clear hi); (try clear ho0)) | ((with_reducible refine gate_callee (f := 27) rfl ?_); refine goesL_ (some 32) rfl rfl Tryd.func27 (by kernel_rfl) rfl #[.slice A1 l1.length c1] rfl (by (try simp only [List.map_toArray, List.map_cons, List.map_nil]); first | done | rfl | (simp only [List.length_drop, List.length_take]; rfl)) ?_; (with_reducible refine (bytes_Clone.calls _ _ l1 t158 _ ?side1 ?side2 A14.out).mono ?_); (case side1 => repeat (first | exact (Kd.C_below HR1.out HB.out) | (with_reducible refine Kd.C_alloc ?_ _) | (with_reducible refine Kd.C_drewN ?_ _) | (with_reducible refine Kd.C_drew ?_))); (case side2 => exact HC1.out); rintro e w19 ⟨v159, rfl, ho0, hb⟩; refine ⟨_, rfl, ?_⟩; have n0_ := Aside0.mk (Kd.R_elder' (by (with_reducible repeat (first | apply Kd.R_alloc | apply Kd.R_drewN | apply Kd.R_drew)); exact HO157.out) (Kd.R_base ho0) hb); have n1_ := Aside0.mk (Kd.R_lower (Kd.R_new' ho0 (Kd.R_lt (by (with_reducible repeat (first | apply Kd.R_alloc | apply Kd.R_drewN | apply Kd.R_drew)); exact HO157.out))) (below_size (by repeat (first | (with_reducible first | exact HB.out | apply below_alloc | apply pw_below_drewN | apply below_drew1) | exact HB.out)))); have n2_ := Aside0.mk (below_step (by repeat (first | (with_reducible first | exact HB.out | apply below_alloc | apply pw_below_drewN | apply below_drew1) | exact HB.out)) hb); clear HO157; clear HB; have HO157 := n0_; have HO160 := n1_; have HB := n2_; clear n0_ n1_ n2_; (try clear hb); (try clear hb2); (try clear hk); (try clear hi); (try clear ho0); obtain ⟨Ao20, co20, eo20⟩ := Kd.R_slice HO157.out; subst eo20; obtain ⟨Ao21, co21, eo21⟩ := Kd.R_slice HO160.out; subst eo21) | ((with_reducible refine gate_callee (f := 26) rfl ?_); refine goesL_ (some 33) rfl rfl Tryd.func26 (by kernel_rfl) rfl #[.slice Ao20 t155.length co20, .slice Ao21 t158.length co21] rfl (by (try simp only [List.map_toArray, List.map_cons, List.map_nil]); first | done | rfl | (simp only [List.length_drop, List.length_take]; rfl)) ?_; (with_reducible refine (impl_Compared.calls _ _ t155 _ _ t158 t161 _ ?side1 ?side2 ?side3 ?side4 A15.out).mono ?_); (case side1 => repeat (first | exact (Kd.R_reads' HO157.out).2.2 | (with_reducible refine Kd.C_alloc ?_ _) | (with_reducible refine Kd.C_drewN ?_ _) | (with_reducible refine Kd.C_drew ?_))); (case side2 => exact (Kd.R_reads' HO157.out).2.1); (case side3 => repeat (first | exact (Kd.R_reads' HO160.out).2.2 | (with_reducible refine Kd.C_alloc ?_ _) | (with_reducible refine Kd.C_drewN ?_ _) | (with_reducible refine Kd.C_drew ?_))); (case side4 => exact (Kd.R_reads' HO160.out).2.1); rintro e w22 ⟨rfl, hb⟩; refine ⟨_, rfl, ?_⟩; have n0_ := Aside0.mk (Kd.R_below (by (with_reducible repeat (first | apply Kd.R_alloc | apply Kd.R_drewN | apply Kd.R_drew)); exact HO157.out) hb); have n1_ := Aside0.mk (Kd.R_below (by (with_reducible repeat (first | apply Kd.R_alloc | apply Kd.R_drewN | apply Kd.R_drew)); exact HO160.out) hb); have n2_ := Aside0.mk (below_step (by repeat (first | (with_reducible first | exact HB.out | apply below_alloc | apply pw_below_drewN | apply below_drew1) | exact HB.out)) hb); clear HO157; clear HO160; clear HB; have HO157 := n0_; have HO160 := n1_; have HB := n2_; clear n0_ n1_ n2_; (try clear hb); (try clear hb2); (try clear hk); (try clear hi)) | ((with_reducible refine gate_callee (f := 18) rfl ?_); refine goesL_ (some 36) rfl rfl Tryd.func18 (by kernel_rfl) rfl #[.slice A0 l0.length c0, .slice A1 l1.length c1] rfl (by (try simp only [List.map_toArray, List.map_cons, List.map_nil]); first | done | rfl | (simp only [List.length_drop, List.length_take]; rfl)) ?_; (with_reducible refine (bytes_Compare.calls _ _ l0 _ _ l1 t162 _ ?side1 ?side2 ?side3 ?side4 A16.out).mono ?_); (case side1 => repeat (first | exact (Kd.C_below HR0.out HB.out) | (with_reducible refine Kd.C_alloc ?_ _) | (with_reducible refine Kd.C_drewN ?_ _) | (with_reducible refine Kd.C_drew ?_))); (case side2 => exact HC0.out); (case side3 => repeat (first | exact (Kd.C_below HR1.out HB.out) | (with_reducible refine Kd.C_alloc ?_ _) | (with_reducible refine Kd.C_drewN ?_ _) | (with_reducible refine Kd.C_drew ?_))); (case side4 => exact HC1.out); rintro e w' ⟨rfl, ⟨nd, rfl⟩⟩; refine ⟨_, rfl, ?_⟩))
              (try simp only [Act.put, List.setIfInBounds_toArray, List.set_cons_zero, List.set_cons_succ])
              go_cut [48] (fun v48 wc => ∃ (kq : Nat) (x48_16 : Bool), v48 = .bool x48_16 ∧ Aside0 (laws_FnNumberCompared.j2 kq a2 a3 x48_16 = some r) ∧ Aside0 (kq ≤ kj7) ∧ Aside0 (Below w.heap.size w wc))
              case first =>
                have H := HC17.out
                clear HC17
                by_cases c23 : ((decide (t161 < 0)) != (decide (t162 < 0))) = true
                · rw [if_pos c23] at H
                  have c23b0 : ((decide (t161 < 0)) != (decide (t162 < 0))) = true := c23
                  (try (have c23b1 : decide ((decide (t161 < 0)) = (decide (t162 < 0))) = false := by simpa using c23))
                  (try (have c23b2 : ((decide (t161 < 0)) == (decide (t162 < 0))) = false := by simpa using c23))
                  (try (have c23b3 : ¬ ((decide (t161 < 0)) = (decide (t162 < 0))) := by simpa using c23))
                  clear c23
                  (first | rw [c23b0] | (simp only [i64_w, i32_w]; rw [c23b0]) | skip)
                  have H' := Aside0.mk H
                  clear H
                  go_wp2
                  go_meet
                  case rel => exact ⟨_, (true), (by first | rfl | (simp; done) | (simp [*]; done)), H', ⟨by have := HJ4.out; have := HJ7.out; first | omega | exact Nat.le_refl _⟩, ⟨by repeat (first | (with_reducible first | exact HB.out | apply below_alloc | apply pw_below_drewN | apply below_drew1) | exact HB.out)⟩⟩
                · rw [if_neg c23] at H
                  have c23b0 : ((decide (t161 < 0)) != (decide (t162 < 0))) = false := by simpa using c23
                  (try (have c23b1 : decide ((decide (t161 < 0)) = (decide (t162 < 0))) = true := by simpa using c23))
                  (try (have c23b2 : ((decide (t161 < 0)) == (decide (t162 < 0))) = true := by simpa using c23))
                  clear c23
                  (first | rw [c23b0] | (simp only [i64_w, i32_w]; rw [c23b0]) | skip)
                  have H' := Aside0.mk H
                  clear H
                  go_wp2
                  go_meet
                  case rel => exact ⟨_, (((decide (t161 > 0)) != (decide (t162 > 0)))), (by first | rfl | (simp; done) | (simp [*]; done)), H', ⟨by have := HJ4.out; have := HJ7.out; first | omega | exact Nat.le_refl _⟩, ⟨by repeat (first | (with_reducible first | exact HB.out | apply below_alloc | apply pw_below_drewN | apply below_drew1) | exact HB.out)⟩⟩
              case rest =>
                clear HC17
                try clear c1
                try clear c2
                try clear p2
                try clear c6
                try clear c6b0
                try clear c6b1
                try clear c7
                try clear c8
                try clear c9
                try clear c9b0
                try clear c9b1
                try clear c10
                try clear c12
                try clear c18
                try clear c23
                try clear c23b0
                try clear c23b1
                try clear c23b2
                try clear p2
                obtain ⟨kq, x48_16, rfl, HA, HJ16, HB⟩ := hcut
                cases kq with
                | zero => exact absurd HA.out (by simp [laws_FnNumberCompared.j2])
                | succ kj16 =>
                  have H := HA.out
                  clear HA
                  simp only [laws_FnNumberCompared.j2] at H
                  by_cases c24 : x48_16 = true
                  · subst c24
                    have H1 : (none) = some r := by rw [if_pos rfl] at H; exact H
                    clear H
                    have H := H1
                    clear H1
                    exact absurd H (by simp)
                  · replace c24 := Bool.eq_false_iff.mpr c24
                    subst c24
                    have H1 : ((impl_NumberOfInt64.f a2).bind fun t163 => ((impl_NumberOfInt64.f a3).bind fun t166 => ((impl_Compared.f t163 t166).bind fun t169 => (if ((decide (t169 < 0)) == (decide (a2 < a3))) = true then (if ((decide (t169 > 0)) == (decide (a2 > a3))) = true then ((impl_Compared.f (([1] : List Int)) (([2] : List Int))).bind fun t176 => (if t176 < 0 then ((laws_numberAwake.f kj16).bind fun t177 => (some t177)) else (none))) else (none)) else (none))))) = some r := by rw [if_neg (show ¬ (false = true) by decide)] at H; exact H
                    clear H
                    have H := H1
                    clear H1
                    replace H := Option.bind_eq_some_iff.mp H
                    obtain ⟨t163, A250, H⟩ := H
                    replace H : ((impl_NumberOfInt64.f a3).bind fun t166 => ((impl_Compared.f t163 t166).bind fun t169 => (if ((decide (t169 < 0)) == (decide (a2 < a3))) = true then (if ((decide (t169 > 0)) == (decide (a2 > a3))) = true then ((impl_Compared.f (([1] : List Int)) (([2] : List Int))).bind fun t176 => (if t176 < 0 then ((laws_numberAwake.f kj16).bind fun t177 => (some t177)) else (none))) else (none)) else (none)))) = some r := H
                    have A25 := Aside0.mk A250
                    clear A250
                    replace H := Option.bind_eq_some_iff.mp H
                    obtain ⟨t166, A260, H⟩ := H
                    replace H : ((impl_Compared.f t163 t166).bind fun t169 => (if ((decide (t169 < 0)) == (decide (a2 < a3))) = true then (if ((decide (t169 > 0)) == (decide (a2 > a3))) = true then ((impl_Compared.f (([1] : List Int)) (([2] : List Int))).bind fun t176 => (if t176 < 0 then ((laws_numberAwake.f kj16).bind fun t177 => (some t177)) else (none))) else (none)) else (none))) = some r := H
                    have A26 := Aside0.mk A260
                    clear A260
                    replace H := Option.bind_eq_some_iff.mp H
                    obtain ⟨t169, A270, H⟩ := H
                    replace H : (if ((decide (t169 < 0)) == (decide (a2 < a3))) = true then (if ((decide (t169 > 0)) == (decide (a2 > a3))) = true then ((impl_Compared.f (([1] : List Int)) (([2] : List Int))).bind fun t176 => (if t176 < 0 then ((laws_numberAwake.f kj16).bind fun t177 => (some t177)) else (none))) else (none)) else (none)) = some r := H
                    have A27 := Aside0.mk A270
                    clear A270
                    by_cases c28 : ((decide (t169 < 0)) == (decide (a2 < a3))) = true
                    · rw [if_pos c28] at H
                      have c28b0 : ((decide (t169 < 0)) == (decide (a2 < a3))) = true := c28
                      (try (have c28b1 : decide ((decide (t169 < 0)) = (decide (a2 < a3))) = true := by simpa using c28))
                      (try (have c28b2 : ((decide (t169 < 0)) == (decide (a2 < a3))) = true := by simpa using c28))
                      clear c28
                      by_cases c29 : ((decide (t169 > 0)) == (decide (a2 > a3))) = true
                      · rw [if_pos c29] at H
                        have c29b0 : ((decide (t169 > 0)) == (decide (a2 > a3))) = true := c29
                        (try (have c29b1 : decide ((decide (t169 > 0)) = (decide (a2 > a3))) = true := by simpa using c29))
                        (try (have c29b2 : ((decide (t169 > 0)) == (decide (a2 > a3))) = true := by simpa using c29))
                        clear c29
                        obtain ⟨y170, hy170⟩ : ∃ y_ : List Int, y_ = (([1] : List Int)) := ⟨_, rfl⟩
                        replace H : ((impl_Compared.f y170 (([2] : List Int))).bind fun t176 => (if t176 < 0 then ((laws_numberAwake.f kj16).bind fun t177 => (some t177)) else (none))) = some r := by first | (rw [hy170]; with_reducible exact H) | (have H2_ := (Option.bind_some _ _).symm.trans H; rw [hy170]; with_reducible exact H2_) | (have H2_ := (Option.bind_some _ _).symm.trans H; with_reducible exact H2_) | with_reducible exact H | (rw [hy170]; exact H) | exact H
                        have Ny170 := Aside0.mk hy170
                        clear hy170
                        obtain ⟨y173, hy173⟩ : ∃ y_ : List Int, y_ = (([2] : List Int)) := ⟨_, rfl⟩
                        replace H : ((impl_Compared.f y170 y173).bind fun t176 => (if t176 < 0 then ((laws_numberAwake.f kj16).bind fun t177 => (some t177)) else (none))) = some r := by first | (rw [hy173]; with_reducible exact H) | (have H2_ := (Option.bind_some _ _).symm.trans H; rw [hy173]; with_reducible exact H2_) | (have H2_ := (Option.bind_some _ _).symm.trans H; with_reducible exact H2_) | with_reducible exact H | (rw [hy173]; exact H) | exact H
                        have Ny173 := Aside0.mk hy173
                        clear hy173
                        replace H := Option.bind_eq_some_iff.mp H
                        obtain ⟨t176, A300, H⟩ := H
                        replace H : (if t176 < 0 then ((laws_numberAwake.f kj16).bind fun t177 => (some t177)) else (none)) = some r := H
                        have A30 := Aside0.mk A300
                        clear A300
                        by_cases c31 : t176 < 0
                        · rw [if_pos c31] at H
                          have c31b0 : decide (t176 < 0) = true := decide_eq_true c31
                          clear c31
                          replace H := Option.bind_eq_some_iff.mp H
                          obtain ⟨t177, A320, H⟩ := H
                          replace H : (some t177) = some r := H
                          have A32 := Aside0.mk A320
                          clear A320
                          obtain rfl := Option.some.inj H
                          go_wp2_with (first | ((with_reducible refine gate_callee (f := 10) rfl ?_); refine goesL_ (some 50) rfl rfl Tryd.func10 (by kernel_rfl) rfl #[.int .i64 a2] rfl (by (try simp only [List.map_toArray, List.map_cons, List.map_nil]); first | done | rfl | (simp only [List.length_drop, List.length_take]; rfl)) ?_; (with_reducible refine (impl_NumberOfInt64.calls a2 t163 _ A25.out ?side99).mono ?_); (case side99 => exact HT.out _ (by repeat (first | (with_reducible first | exact HB.out | apply below_alloc | apply pw_below_drewN | apply below_drew1) | exact HB.out))); rintro e w33 ⟨v164, rfl, ho0, hb⟩; refine ⟨_, rfl, ?_⟩; have n0_ := Aside0.mk (Kd.R_lower ho0 (below_size (by repeat (first | (with_reducible first | exact HB.out | apply below_alloc | apply pw_below_drewN | apply below_drew1) | exact HB.out)))); have n1_ := Aside0.mk (below_step (by repeat (first | (with_reducible first | exact HB.out | apply below_alloc | apply pw_below_drewN | apply below_drew1) | exact HB.out)) hb); clear HB; have HO165 := n0_; have HB := n1_; clear n0_ n1_; (try clear hb); (try clear hb2); (try clear hk); (try clear hi); (try clear ho0)) | ((with_reducible refine gate_callee (f := 10) rfl ?_); refine goesL_ (some 52) rfl rfl Tryd.func10 (by kernel_rfl) rfl #[.int .i64 a3] rfl (by (try simp only [List.map_toArray, List.map_cons, List.map_nil]); first | done | rfl | (simp only [List.length_drop, List.length_take]; rfl)) ?_; (with_reducible refine (impl_NumberOfInt64.calls a3 t166 _ A26.out ?side99).mono ?_); (case side99 => exact HT.out _ (by repeat (first | (with_reducible first | exact HB.out | apply below_alloc | apply pw_below_drewN | apply below_drew1) | exact HB.out))); rintro e w34 ⟨v167, rfl, ho0, hb⟩; refine ⟨_, rfl, ?_⟩; have n0_ := Aside0.mk (Kd.R_elder' (by (with_reducible repeat (first | apply Kd.R_alloc | apply Kd.R_drewN | apply Kd.R_drew)); exact HO165.out) (Kd.R_base ho0) hb); have n1_ := Aside0.mk (Kd.R_lower (Kd.R_new' ho0 (Kd.R_lt (by (with_reducible repeat (first | apply Kd.R_alloc | apply Kd.R_drewN | apply Kd.R_drew)); exact HO165.out))) (below_size (by repeat (first | (with_reducible first | exact HB.out | apply below_alloc | apply pw_below_drewN | apply below_drew1) | exact HB.out)))); have n2_ := Aside0.mk (below_step (by repeat (first | (with_reducible first | exact HB.out | apply below_alloc | apply pw_below_drewN | apply below_drew1) | exact HB.out)) hb); clear HO165; clear HB; have HO165 := n0_; have HO168 := n1_; have HB := n2_; clear n0_ n1_ n2_; (try clear hb); (try clear hb2); (try clear hk); (try clear hi); (try clear ho0); obtain ⟨Ao35, co35, eo35⟩ := Kd.R_slice HO165.out; subst eo35; obtain ⟨Ao36, co36, eo36⟩ := Kd.R_slice HO168.out; subst eo36) | ((with_reducible refine gate_callee (f := 26) rfl ?_); refine goesL_ (some 53) rfl rfl Tryd.func26 (by kernel_rfl) rfl #[.slice Ao35 t163.length co35, .slice Ao36 t166.length co36] rfl (by (try simp only [List.map_toArray, List.map_cons, List.map_nil]); first | done | rfl | (simp only [List.length_drop, List.length_take]; rfl)) ?_; (with_reducible refine (impl_Compared.calls _ _ t163 _ _ t166 t169 _ ?side1 ?side2 ?side3 ?side4 A27.out).mono ?_); (case side1 => repeat (first | exact (Kd.R_reads' HO165.out).2.2 | (with_reducible refine Kd.C_alloc ?_ _) | (with_reducible refine Kd.C_drewN ?_ _) | (with_reducible refine Kd.C_drew ?_))); (case side2 => exact (Kd.R_reads' HO165.out).2.1); (case side3 => repeat (first | exact (Kd.R_reads' HO168.out).2.2 | (with_reducible refine Kd.C_alloc ?_ _) | (with_reducible refine Kd.C_drewN ?_ _) | (with_reducible refine Kd.C_drew ?_))); (case side4 => exact (Kd.R_reads' HO168.out).2.1); rintro e w37 ⟨rfl, hb⟩; refine ⟨_, rfl, ?_⟩; have n0_ := Aside0.mk (Kd.R_below (by (with_reducible repeat (first | apply Kd.R_alloc | apply Kd.R_drewN | apply Kd.R_drew)); exact HO165.out) hb); have n1_ := Aside0.mk (Kd.R_below (by (with_reducible repeat (first | apply Kd.R_alloc | apply Kd.R_drewN | apply Kd.R_drew)); exact HO168.out) hb); have n2_ := Aside0.mk (below_step (by repeat (first | (with_reducible first | exact HB.out | apply below_alloc | apply pw_below_drewN | apply below_drew1) | exact HB.out)) hb); clear HO165; clear HO168; clear HB; have HO165 := n0_; have HO168 := n1_; have HB := n2_; clear n0_ n1_ n2_; (try clear hb); (try clear hb2); (try clear hk); (try clear hi)) | ((with_reducible refine gate_dst (N := 69) rfl ?_); (try (refine gate_guard (by rfl) ?_; dsimp only)); refine Kd.R_lit (Kd.int .u8) _ 5 ?hg (N := 69) ?hd (xs := ([1] : List Int)) (inner := [.int .u8 1]) (ok := fun _ => True) (okp := fun _ => True) ?hr ?hp (fun _ hk => hk) trivial (Below.refl _ _) (Nat.le_refl _) (by simp) ?_; (case hd => rfl); (case hg => rfl); (case hr => first | (go_simp; done) | (go_simp; rfl)); (case hp => exact (Reps.one (show Kd.M (Kd.int .u8) _ _ _ 1 [.int .u8 1] from rfl) (Reps.none _ _))); intro v171 w38 ho39 hb hg_ hnew_; clear hg_ hnew_; (first | rw [← Ny170.out] at ho39 | (simp only [Int.reduceToNat] at ho39; rw [← Ny170.out] at ho39)); have n0_ := Aside0.mk (Kd.R_elder' (by (with_reducible repeat (first | apply Kd.R_alloc | apply Kd.R_drewN | apply Kd.R_drew)); exact HO165.out) (Kd.R_base ho39) hb); have n1_ := Aside0.mk (Kd.R_elder' (by (with_reducible repeat (first | apply Kd.R_alloc | apply Kd.R_drewN | apply Kd.R_drew)); exact HO168.out) (Kd.R_base ho39) hb); have n2_ := Aside0.mk (Kd.R_lower (Kd.R_new' (Kd.R_new' ho39 (Kd.R_lt (by (with_reducible repeat (first | apply Kd.R_alloc | apply Kd.R_drewN | apply Kd.R_drew)); exact HO165.out))) (Kd.R_lt (by (with_reducible repeat (first | apply Kd.R_alloc | apply Kd.R_drewN | apply Kd.R_drew)); exact HO168.out))) (below_size (by repeat (first | (with_reducible first | exact HB.out | apply below_alloc | apply pw_below_drewN | apply below_drew1) | exact HB.out)))); have n3_ := Aside0.mk (below_step (by repeat (first | (with_reducible first | exact HB.out | apply below_alloc | apply pw_below_drewN | apply below_drew1) | exact HB.out)) hb); clear HO165; clear HO168; clear HB; have HO165 := n0_; have HO168 := n1_; have HO172 := n2_; have HB := n3_; clear n0_ n1_ n2_ n3_; clear hb ho39) | ((with_reducible refine gate_dst (N := 70) rfl ?_); (try (refine gate_guard (by rfl) ?_; dsimp only)); refine Kd.R_lit (Kd.int .u8) _ 5 ?hg (N := 70) ?hd (xs := ([2] : List Int)) (inner := [.int .u8 2]) (ok := fun _ => True) (okp := fun _ => True) ?hr ?hp (fun _ hk => hk) trivial (Below.refl _ _) (Nat.le_refl _) (by simp) ?_; (case hd => rfl); (case hg => rfl); (case hr => first | (go_simp; done) | (go_simp; rfl)); (case hp => exact (Reps.one (show Kd.M (Kd.int .u8) _ _ _ 2 [.int .u8 2] from rfl) (Reps.none _ _))); intro v174 w40 ho41 hb hg_ hnew_; clear hg_ hnew_; (first | rw [← Ny173.out] at ho41 | (simp only [Int.reduceToNat] at ho41; rw [← Ny173.out] at ho41)); have n0_ := Aside0.mk (Kd.R_elder' (by (with_reducible repeat (first | apply Kd.R_alloc | apply Kd.R_drewN | apply Kd.R_drew)); exact HO165.out) (Kd.R_base ho41) hb); have n1_ := Aside0.mk (Kd.R_elder' (by (with_reducible repeat (first | apply Kd.R_alloc | apply Kd.R_drewN | apply Kd.R_drew)); exact HO168.out) (Kd.R_base ho41) hb); have n2_ := Aside0.mk (Kd.R_elder' (by (with_reducible repeat (first | apply Kd.R_alloc | apply Kd.R_drewN | apply Kd.R_drew)); exact HO172.out) (Kd.R_base ho41) hb); have n3_ := Aside0.mk (Kd.R_lower (Kd.R_new' (Kd.R_new' (Kd.R_new' ho41 (Kd.R_lt (by (with_reducible repeat (first | apply Kd.R_alloc | apply Kd.R_drewN | apply Kd.R_drew)); exact HO165.out))) (Kd.R_lt (by (with_reducible repeat (first | apply Kd.R_alloc | apply Kd.R_drewN | apply Kd.R_drew)); exact HO168.out))) (Kd.R_lt (by (with_reducible repeat (first | apply Kd.R_alloc | apply Kd.R_drewN | apply Kd.R_drew)); exact HO172.out))) (below_size (by repeat (first | (with_reducible first | exact HB.out | apply below_alloc | apply pw_below_drewN | apply below_drew1) | exact HB.out)))); have n4_ := Aside0.mk (below_step (by repeat (first | (with_reducible first | exact HB.out | apply below_alloc | apply pw_below_drewN | apply below_drew1) | exact HB.out)) hb); clear HO165; clear HO168; clear HO172; clear HB; have HO165 := n0_; have HO168 := n1_; have HO172 := n2_; have HO175 := n3_; have HB := n4_; clear n0_ n1_ n2_ n3_ n4_; clear hb ho41; obtain ⟨Ao42, co42, eo42⟩ := Kd.R_slice HO172.out; subst eo42; obtain ⟨Ao43, co43, eo43⟩ := Kd.R_slice HO175.out; subst eo43) | (go_at_call 26; (with_reducible refine (impl_Compared.calls _ _ y170 _ _ y173 t176 _ ?side1 ?side2 ?side3 ?side4 A30.out).mono ?_); (case side1 => repeat (first | exact (Kd.R_reads' HO172.out).2.2 | (with_reducible refine Kd.C_alloc ?_ _) | (with_reducible refine Kd.C_drewN ?_ _) | (with_reducible refine Kd.C_drew ?_))); (case side2 => exact (Kd.R_reads' HO172.out).2.1); (case side3 => repeat (first | exact (Kd.R_reads' HO175.out).2.2 | (with_reducible refine Kd.C_alloc ?_ _) | (with_reducible refine Kd.C_drewN ?_ _) | (with_reducible refine Kd.C_drew ?_))); (case side4 => exact (Kd.R_reads' HO175.out).2.1); rintro e w44 ⟨rfl, hb⟩; have n0_ := Aside0.mk (Kd.R_below (by (with_reducible repeat (first | apply Kd.R_alloc | apply Kd.R_drewN | apply Kd.R_drew)); exact HO165.out) hb); have n1_ := Aside0.mk (Kd.R_below (by (with_reducible repeat (first | apply Kd.R_alloc | apply Kd.R_drewN | apply Kd.R_drew)); exact HO168.out) hb); have n2_ := Aside0.mk (Kd.R_below (by (with_reducible repeat (first | apply Kd.R_alloc | apply Kd.R_drewN | apply Kd.R_drew)); exact HO172.out) hb); have n3_ := Aside0.mk (Kd.R_below (by (with_reducible repeat (first | apply Kd.R_alloc | apply Kd.R_drewN | apply Kd.R_drew)); exact HO175.out) hb); have n4_ := Aside0.mk (below_step (by repeat (first | (with_reducible first | exact HB.out | apply below_alloc | apply pw_below_drewN | apply below_drew1) | exact HB.out)) hb); clear HO165; clear HO168; clear HO172; clear HO175; clear HB; have HO165 := n0_; have HO168 := n1_; have HO172 := n2_; have HO175 := n3_; have HB := n4_; clear n0_ n1_ n2_ n3_ n4_; (try clear hb); (try clear hb2); (try clear hk); (try clear hi)) | (go_at_call 12; (with_reducible refine (laws_numberAwake.calls kj16  t177 _ A32.out ?side99).mono ?_); (case side99 => exact HT.out _ (by repeat (first | (with_reducible first | exact HB.out | apply below_alloc | apply pw_below_drewN | apply below_drew1) | exact HB.out))); rintro e w45 ⟨rfl, hb⟩; have n0_ := Aside0.mk (Kd.R_below (by (with_reducible repeat (first | apply Kd.R_alloc | apply Kd.R_drewN | apply Kd.R_drew)); exact HO165.out) hb); have n1_ := Aside0.mk (Kd.R_below (by (with_reducible repeat (first | apply Kd.R_alloc | apply Kd.R_drewN | apply Kd.R_drew)); exact HO168.out) hb); have n2_ := Aside0.mk (Kd.R_below (by (with_reducible repeat (first | apply Kd.R_alloc | apply Kd.R_drewN | apply Kd.R_drew)); exact HO172.out) hb); have n3_ := Aside0.mk (Kd.R_below (by (with_reducible repeat (first | apply Kd.R_alloc | apply Kd.R_drewN | apply Kd.R_drew)); exact HO175.out) hb); have n4_ := Aside0.mk (below_step (by repeat (first | (with_reducible first | exact HB.out | apply below_alloc | apply pw_below_drewN | apply below_drew1) | exact HB.out)) hb); clear HO165; clear HO168; clear HO172; clear HO175; clear HB; have HO165 := n0_; have HO168 := n1_; have HO172 := n2_; have HO175 := n3_; have HB := n4_; clear n0_ n1_ n2_ n3_ n4_; (try clear hb); (try clear hb2); (try clear hk); (try clear hi)))
                          go_ret
                          exact ⟨by first | rfl | (simp [errW_none, errW_some] <;> rfl) | (simp [*, errW_none, errW_some] <;> rfl), by repeat (first | (with_reducible first | exact HB.out | apply below_alloc | apply pw_below_drewN | apply below_drew1) | exact HB.out)⟩
                        · rw [if_neg c31] at H
                          exact absurd H (by simp)
                      · rw [if_neg c29] at H
                        exact absurd H (by simp)
                    · rw [if_neg c28] at H
                      exact absurd H (by simp)
/-- THE ONE PURE STATEMENT of laws_FnNumberCompared: yours. -/
def laws_FnNumberCompared.Pure : Prop := ∀ (l0 : List Int) (l1 : List Int) (a2 : Int) (a3 : Int), l0.length ≤ maxLen → l0.length * 1 ≤ 140737488351232 → (∀ x ∈ l0, (Lit.int .u8 x).wf = true) → l1.length ≤ maxLen → l1.length * 1 ≤ 140737488351232 → (∀ x ∈ l1, (Lit.int .u8 x).wf = true) → (Lit.int .i64 a2).wf = true → (Lit.int .i64 a3).wf = true → ∃ k, laws_FnNumberCompared.f k l0 l1 a2 a3 = some true
end Go.Proofs.YtepooaejlofkkaaDoor.ZC
