-- Written by a program of this session (wip/xprint.py), which calls the kit's print.
import Derived.Test.YtepooaejlofkkaaDoorZN0
import Derived.Test.YtepooaejlofkkaaDoorZN1
import Derived.Test.YtepooaejlofkkaaDoorZN3
import Derived.Test.YtepooaejlofkkaaDoorZN4
import Derived.Test.YtepooaejlofkkaaDoorZN5
import Derived.Test.YtepooaejlofkkaaDoorNum
namespace Go.Proofs.YtepooaejlofkkaaDoor.ZN
open Go.RowKit Go.Proofs.YtepooaejlofkkaaDoor.X Go.Proofs.YtepooaejlofkkaaDoorW.PrintWords Go.Proofs.YtepooaejlofkkaaDoorW.PrintLast Go.Proofs.YtepooaejlofkkaaDoorW.PrintMore
attribute [local go_sem] max2_int min2_int max_two min_two max_three min_three max_four min_four   -- for this text's walks alone
set_option linter.unusedVariables false
set_option linter.unusedSimpArgs false

/-! ### laws_FnNumberMade: function 4 -/
def laws_FnNumberMade.f (k : Nat) (l0 : List Int) (a1 : Bool) (a2 : Int) : Option (Bool) := if (l0.length : Int) > 2147483647 then (some true) else ((laws_numberDigits.f k l0 18).bind fun t221 => (if (t221.length : Int) = 0 then ((impl_NumberMade.f ([] : List Int) false 0).bind fun t224 => ((spec_NumberSame.f t224 (([128] : List Int))).bind fun t230 => (if t230 = true then ((laws_numberAwake.f k).bind fun t231 => (some t231)) else (none)))) else ((laws_numberLetters.f k t221).bind fun t232 => ((impl_NumberMade.f t232 a1 (wrap64 (Int.tmod a2 61))).bind fun t235 => ((spec_NumberBytes.f k t221 a1 (wrap64 (Int.tmod a2 61))).bind fun t238 => ((spec_NumberSame.f t235 t238).bind fun t241 => (if t241 = true then ((laws_numberAwake.f k).bind fun t242 => (some t242)) else (none))))))))
theorem laws_FnNumberMade.mono : ∀ a0 a1 a2 k, LeO (laws_FnNumberMade.f k a0 a1 a2) (laws_FnNumberMade.f (k + 1) a0 a1 a2) := by
  intro a0 a1 a2 k
  unfold laws_FnNumberMade.f
  repeat' first
      | (with_reducible exact laws_numberAwake.mono _)
      | (with_reducible exact laws_numberDigits.mono _ _ _)
      | (with_reducible exact laws_numberLetters.mono _ _)
      | (with_reducible exact spec_NumberBytes.mono _ _ _ _)
      | (with_reducible exact LeO.refl _)
      | (with_reducible exact LeO.none _)
      | (with_reducible refine LeO.ite ?_ ?_)
      | (with_reducible refine LeO.bind ?_ (fun _ => ?_))
      | exact laws_numberAwake.mono _
      | exact laws_numberDigits.mono _ _ _
      | exact laws_numberLetters.mono _ _
      | exact spec_NumberBytes.mono _ _ _ _
      | exact LeO.none _
      | refine LeO.ite ?_ ?_
      | refine LeO.bind ?_ (fun _ => ?_)
set_option maxHeartbeats 8000000 in
set_option maxRecDepth 100000 in
theorem laws_FnNumberMade.calls (k : Nat) (A0 : Option Addr) (c0 : Nat) (l0 : List Int) (a1 : Bool) (a2 : Int) (r : Bool) (w : World) (hr0 : Kd.C (Kd.int .u8) w A0 l0.length l0) (hc0 : l0.length ≤ c0) (h : laws_FnNumberMade.f k l0 a1 a2 = some r) (htab : Tab w) :
    Calls Tryd.prog 4 #[.slice A0 l0.length c0, .bool a1, .int .i8 a2] w fun e w' => e = .returned (.bool r) ∧ Below w.heap.size w w' := by
  have HT := Aside0.mk (tab_all htab)
  clear htab
  have HR0 := Aside0.mk hr0
  have HC0 := Aside0.mk hc0
  clear hr0 hc0
  have HB := Aside0.mk (Below.refl w.heap.size w)
  have H : (if (l0.length : Int) > 2147483647 then (some true) else ((laws_numberDigits.f k l0 18).bind fun t221 => (if (t221.length : Int) = 0 then ((impl_NumberMade.f ([] : List Int) false 0).bind fun t224 => ((spec_NumberSame.f t224 (([128] : List Int))).bind fun t230 => (if t230 = true then ((laws_numberAwake.f k).bind fun t231 => (some t231)) else (none)))) else ((laws_numberLetters.f k t221).bind fun t232 => ((impl_NumberMade.f t232 a1 (wrap64 (Int.tmod a2 61))).bind fun t235 => ((spec_NumberBytes.f k t221 a1 (wrap64 (Int.tmod a2 61))).bind fun t238 => ((spec_NumberSame.f t235 t238).bind fun t241 => (if t241 = true then ((laws_numberAwake.f k).bind fun t242 => (some t242)) else (none))))))))) = some r := h
  clear h
  by_cases c4 : (l0.length : Int) > 2147483647
  · rw [if_pos c4] at H
    have c4b0 : decide (2147483647 < (l0.length : Int)) = true := decide_eq_true c4
    have c4b1 : decide (2147483647 < l0.length) = true := decide_eq_true (by omega)
    clear c4
    obtain rfl := Option.some.inj H
    go_enter Tryd.func4, Tryd.ntmps4
    go_wp2
    go_ret
    exact ⟨by first | rfl | (simp [errW_none, errW_some] <;> rfl) | (simp [*, errW_none, errW_some] <;> rfl), by repeat (first | (with_reducible first | exact HB.out | apply below_alloc | apply pw_below_drewN | apply below_drew1) | exact HB.out)⟩
  · rw [if_neg c4] at H
    have c4b0 : decide (2147483647 < (l0.length : Int)) = false := decide_eq_false c4
    have c4b1 : decide (2147483647 < l0.length) = false := decide_eq_false (by omega)
    clear c4
    replace H := Option.bind_eq_some_iff.mp H
    obtain ⟨t221, A50, H⟩ := H
    replace H : (if (t221.length : Int) = 0 then ((impl_NumberMade.f ([] : List Int) false 0).bind fun t224 => ((spec_NumberSame.f t224 (([128] : List Int))).bind fun t230 => (if t230 = true then ((laws_numberAwake.f k).bind fun t231 => (some t231)) else (none)))) else ((laws_numberLetters.f k t221).bind fun t232 => ((impl_NumberMade.f t232 a1 (wrap64 (Int.tmod a2 61))).bind fun t235 => ((spec_NumberBytes.f k t221 a1 (wrap64 (Int.tmod a2 61))).bind fun t238 => ((spec_NumberSame.f t235 t238).bind fun t241 => (if t241 = true then ((laws_numberAwake.f k).bind fun t242 => (some t242)) else (none))))))) = some r := H
    have A5 := Aside0.mk A50
    clear A50
    by_cases c6 : (t221.length : Int) = 0
    · rw [if_pos c6] at H
      have c6b0 : ((t221.length : Int) == 0) = true := beq_iff_eq.mpr c6
      have c6b1 : ((t221.length : Int) != 0) = false := bne_eq_false_iff_eq.mpr c6
      clear c6
      replace H := Option.bind_eq_some_iff.mp H
      obtain ⟨t224, A70, H⟩ := H
      replace H : ((spec_NumberSame.f t224 (([128] : List Int))).bind fun t230 => (if t230 = true then ((laws_numberAwake.f k).bind fun t231 => (some t231)) else (none))) = some r := H
      have A7 := Aside0.mk A70
      clear A70
      obtain ⟨y227, hy227⟩ : ∃ y_ : List Int, y_ = (([128] : List Int)) := ⟨_, rfl⟩
      replace H : ((spec_NumberSame.f t224 y227).bind fun t230 => (if t230 = true then ((laws_numberAwake.f k).bind fun t231 => (some t231)) else (none))) = some r := by first | (rw [hy227]; with_reducible exact H) | (have H2_ := (Option.bind_some _ _).symm.trans H; rw [hy227]; with_reducible exact H2_) | (have H2_ := (Option.bind_some _ _).symm.trans H; with_reducible exact H2_) | with_reducible exact H | (rw [hy227]; exact H) | exact H
      have Ny227 := Aside0.mk hy227
      clear hy227
      replace H := Option.bind_eq_some_iff.mp H
      obtain ⟨t230, A80, H⟩ := H
      replace H : (if t230 = true then ((laws_numberAwake.f k).bind fun t231 => (some t231)) else (none)) = some r := H
      have A8 := Aside0.mk A80
      clear A80
      by_cases c9 : t230 = true
      · subst c9
        have H1 : ((laws_numberAwake.f k).bind fun t231 => (some t231)) = some r := by rw [if_pos rfl] at H; exact H
        clear H
        have H := H1
        clear H1
        replace H := Option.bind_eq_some_iff.mp H
        obtain ⟨t231, A100, H⟩ := H
        replace H : (some t231) = some r := H
        have A10 := Aside0.mk A100
        clear A100
        obtain rfl := Option.some.inj H
        go_enter Tryd.func4, Tryd.ntmps4
        go_wp2_with (first | ((with_reducible refine gate_callee (f := 13) rfl ?_); refine goesL_ (some 13) rfl rfl Tryd.func13 (by kernel_rfl) rfl #[.slice A0 l0.length c0, .int .i64 18] rfl (by (try simp only [List.map_toArray, List.map_cons, List.map_nil]); first | done | rfl | (simp only [List.length_drop, List.length_take]; rfl)) ?_; (with_reducible refine (laws_numberDigits.calls k _ _ l0 18 t221 _ ?side1 ?side2 A5.out).mono ?_); (case side1 => repeat (first | exact HR0.out | (with_reducible refine Kd.C_alloc ?_ _) | (with_reducible refine Kd.C_drewN ?_ _) | (with_reducible refine Kd.C_drew ?_))); (case side2 => exact HC0.out); rintro e w11 ⟨v222, rfl, ho0, hb⟩; refine ⟨_, rfl, ?_⟩; have n0_ := Aside0.mk (Kd.Q_lower ho0 (below_size (by repeat (first | (with_reducible first | exact HB.out | apply below_alloc | apply pw_below_drewN | apply below_drew1) | exact HB.out)))); have n1_ := Aside0.mk (below_step (by repeat (first | (with_reducible first | exact HB.out | apply below_alloc | apply pw_below_drewN | apply below_drew1) | exact HB.out)) hb); clear HB; have HO223 := n0_; have HB := n1_; clear n0_ n1_; (try clear hb); (try clear hb2); (try clear hk); (try clear hi); (try clear ho0); obtain ⟨Ao12, co12, eo12, _⟩ := Kd.Q_slice HO223.out; subst eo12) | ((with_reducible refine gate_callee (f := 15) rfl ?_); refine goesL_ (some 20) rfl rfl Tryd.func15 (by kernel_rfl) rfl #[.slice none 0 0, .bool false, .int .i64 0] rfl (by (try simp only [List.map_toArray, List.map_cons, List.map_nil]); first | done | rfl | (simp only [List.length_drop, List.length_take]; rfl)) ?_; (refine (impl_NumberMade.calls _ _ ([] : List Int) false 0 t224 _ ?side1 ?side2 A7.out).mono ?_); (case side1 => exact Kd.C_nil _ _); (case side2 => exact Nat.le_refl _); rintro e w13 ⟨v225, rfl, ho0, hb⟩; refine ⟨_, rfl, ?_⟩; have n0_ := Aside0.mk (Kd.Q_elder' (by (with_reducible repeat (first | apply Kd.Q_alloc | apply Kd.Q_drewN | apply Kd.Q_drew)); exact HO223.out) (Kd.R_base ho0) hb); have n1_ := Aside0.mk (Kd.R_lower (Kd.R_new' ho0 (Kd.Q_lt (by (with_reducible repeat (first | apply Kd.Q_alloc | apply Kd.Q_drewN | apply Kd.Q_drew)); exact HO223.out))) (below_size (by repeat (first | (with_reducible first | exact HB.out | apply below_alloc | apply pw_below_drewN | apply below_drew1) | exact HB.out)))); have n2_ := Aside0.mk (below_step (by repeat (first | (with_reducible first | exact HB.out | apply below_alloc | apply pw_below_drewN | apply below_drew1) | exact HB.out)) hb); clear HO223; clear HB; have HO223 := n0_; have HO226 := n1_; have HB := n2_; clear n0_ n1_ n2_; (try clear hb); (try clear hb2); (try clear hk); (try clear hi); (try clear ho0)) | ((with_reducible refine gate_dst (N := 21) rfl ?_); refine Kd.R_lit (Kd.int .u8) _ 5 ?hg (N := 21) ?hd (xs := ([128] : List Int)) (inner := [.int .u8 128]) (ok := fun _ => True) (okp := fun _ => True) ?hr ?hp (fun _ hk => hk) trivial (Below.refl _ _) (Nat.le_refl _) (by simp) ?_; (case hd => rfl); (case hg => rfl); (case hr => first | (go_simp; done) | (go_simp; rfl)); (case hp => exact (Reps.one (show Kd.M (Kd.int .u8) _ _ _ 128 [.int .u8 128] from rfl) (Reps.none _ _))); intro v228 w14 ho15 hb hg_ hnew_; clear hg_ hnew_; (first | rw [← Ny227.out] at ho15 | (simp only [Int.reduceToNat] at ho15; rw [← Ny227.out] at ho15)); have n0_ := Aside0.mk (Kd.Q_elder' (by (with_reducible repeat (first | apply Kd.Q_alloc | apply Kd.Q_drewN | apply Kd.Q_drew)); exact HO223.out) (Kd.R_base ho15) hb); have n1_ := Aside0.mk (Kd.R_elder' (by (with_reducible repeat (first | apply Kd.R_alloc | apply Kd.R_drewN | apply Kd.R_drew)); exact HO226.out) (Kd.R_base ho15) hb); have n2_ := Aside0.mk (Kd.R_lower (Kd.R_new' (Kd.R_new' ho15 (Kd.Q_lt (by (with_reducible repeat (first | apply Kd.Q_alloc | apply Kd.Q_drewN | apply Kd.Q_drew)); exact HO223.out))) (Kd.R_lt (by (with_reducible repeat (first | apply Kd.R_alloc | apply Kd.R_drewN | apply Kd.R_drew)); exact HO226.out))) (below_size (by repeat (first | (with_reducible first | exact HB.out | apply below_alloc | apply pw_below_drewN | apply below_drew1) | exact HB.out)))); have n3_ := Aside0.mk (below_step (by repeat (first | (with_reducible first | exact HB.out | apply below_alloc | apply pw_below_drewN | apply below_drew1) | exact HB.out)) hb); clear HO223; clear HO226; clear HB; have HO223 := n0_; have HO226 := n1_; have HO229 := n2_; have HB := n3_; clear n0_ n1_ n2_ n3_; clear hb ho15; obtain ⟨Ao16, co16, eo16⟩ := Kd.R_slice HO226.out; subst eo16; obtain ⟨Ao17, co17, eo17⟩ := Kd.R_slice HO229.out; subst eo17) | ((with_reducible refine gate_callee (f := 14) rfl ?_); refine goesL_ (some 22) rfl rfl Tryd.func14 (by kernel_rfl) rfl #[.slice Ao16 t224.length co16, .slice Ao17 y227.length co17] rfl (by (try simp only [List.map_toArray, List.map_cons, List.map_nil]); first | done | rfl | (simp only [List.length_drop, List.length_take]; rfl)) ?_; (with_reducible refine (spec_NumberSame.calls _ _ t224 _ _ y227 true _ ?side1 ?side2 ?side3 ?side4 A8.out).mono ?_); (case side1 => repeat (first | exact (Kd.R_reads' HO226.out).2.2 | (with_reducible refine Kd.C_alloc ?_ _) | (with_reducible refine Kd.C_drewN ?_ _) | (with_reducible refine Kd.C_drew ?_))); (case side2 => exact (Kd.R_reads' HO226.out).2.1); (case side3 => repeat (first | exact (Kd.R_reads' HO229.out).2.2 | (with_reducible refine Kd.C_alloc ?_ _) | (with_reducible refine Kd.C_drewN ?_ _) | (with_reducible refine Kd.C_drew ?_))); (case side4 => exact (Kd.R_reads' HO229.out).2.1); rintro e w' ⟨rfl, ⟨nd, rfl⟩⟩; refine ⟨_, rfl, ?_⟩) | (go_at_call 12; (with_reducible refine (laws_numberAwake.calls k  t231 _ A10.out ?side99).mono ?_); (case side99 => exact HT.out _ (by repeat (first | (with_reducible first | exact HB.out | apply below_alloc | apply pw_below_drewN | apply below_drew1) | exact HB.out))); rintro e w18 ⟨rfl, hb⟩; have n0_ := Aside0.mk (Kd.Q_below (by (with_reducible repeat (first | apply Kd.Q_alloc | apply Kd.Q_drewN | apply Kd.Q_drew)); exact HO223.out) hb); have n1_ := Aside0.mk (Kd.R_below (by (with_reducible repeat (first | apply Kd.R_alloc | apply Kd.R_drewN | apply Kd.R_drew)); exact HO226.out) hb); have n2_ := Aside0.mk (Kd.R_below (by (with_reducible repeat (first | apply Kd.R_alloc | apply Kd.R_drewN | apply Kd.R_drew)); exact HO229.out) hb); have n3_ := Aside0.mk (below_step (by repeat (first | (with_reducible first | exact HB.out | apply below_alloc | apply pw_below_drewN | apply below_drew1) | exact HB.out)) hb); clear HO223; clear HO226; clear HO229; clear HB; have HO223 := n0_; have HO226 := n1_; have HO229 := n2_; have HB := n3_; clear n0_ n1_ n2_ n3_; (try clear hb); (try clear hb2); (try clear hk); (try clear hi)))
        go_ret
        exact ⟨by first | rfl | (simp [errW_none, errW_some] <;> rfl) | (simp [*, errW_none, errW_some] <;> rfl), by repeat (first | (with_reducible first | exact HB.out | apply below_alloc | apply pw_below_drewN | apply below_drew1) | exact HB.out)⟩
      · replace c9 := Bool.eq_false_iff.mpr c9
        subst c9
        have H1 : (none) = some r := by rw [if_neg (show ¬ (false = true) by decide)] at H; exact H
        clear H
        have H := H1
        clear H1
        exact absurd H (by simp)
    · rw [if_neg c6] at H
      have c6b0 : ((t221.length : Int) == 0) = false := beq_eq_false_iff_ne.mpr c6
      have c6b1 : ((t221.length : Int) != 0) = true := bne_iff_ne.mpr c6
      have c6b2 : ¬ (t221 = []) := fun h_ => c6 (by rw [h_]; rfl)
      replace H := Option.bind_eq_some_iff.mp H
      obtain ⟨t232, A260, H⟩ := H
      replace H : ((impl_NumberMade.f t232 a1 (wrap64 (Int.tmod a2 61))).bind fun t235 => ((spec_NumberBytes.f k t221 a1 (wrap64 (Int.tmod a2 61))).bind fun t238 => ((spec_NumberSame.f t235 t238).bind fun t241 => (if t241 = true then ((laws_numberAwake.f k).bind fun t242 => (some t242)) else (none))))) = some r := H
      have A26 := Aside0.mk A260
      clear A260
      replace H := Option.bind_eq_some_iff.mp H
      obtain ⟨t235, A270, H⟩ := H
      replace H : ((spec_NumberBytes.f k t221 a1 (wrap64 (Int.tmod a2 61))).bind fun t238 => ((spec_NumberSame.f t235 t238).bind fun t241 => (if t241 = true then ((laws_numberAwake.f k).bind fun t242 => (some t242)) else (none)))) = some r := H
      have A27 := Aside0.mk A270
      clear A270
      replace H := Option.bind_eq_some_iff.mp H
      obtain ⟨t238, A280, H⟩ := H
      replace H : ((spec_NumberSame.f t235 t238).bind fun t241 => (if t241 = true then ((laws_numberAwake.f k).bind fun t242 => (some t242)) else (none))) = some r := H
      have A28 := Aside0.mk A280
      clear A280
      replace H := Option.bind_eq_some_iff.mp H
      obtain ⟨t241, A290, H⟩ := H
      replace H : (if t241 = true then ((laws_numberAwake.f k).bind fun t242 => (some t242)) else (none)) = some r := H
      have A29 := Aside0.mk A290
      clear A290
      by_cases c30 : t241 = true
      · subst c30
        have H1 : ((laws_numberAwake.f k).bind fun t242 => (some t242)) = some r := by rw [if_pos rfl] at H; exact H
        clear H
        have H := H1
        clear H1
        replace H := Option.bind_eq_some_iff.mp H
        obtain ⟨t242, A310, H⟩ := H
        replace H : (some t242) = some r := H
        have A31 := Aside0.mk A310
        clear A310
        obtain rfl := Option.some.inj H
        go_enter Tryd.func4, Tryd.ntmps4
        go_wp2_with (first | ((with_reducible refine gate_callee (f := 13) rfl ?_); refine goesL_ (some 13) rfl rfl Tryd.func13 (by kernel_rfl) rfl #[.slice A0 l0.length c0, .int .i64 18] rfl (by (try simp only [List.map_toArray, List.map_cons, List.map_nil]); first | done | rfl | (simp only [List.length_drop, List.length_take]; rfl)) ?_; (with_reducible refine (laws_numberDigits.calls k _ _ l0 18 t221 _ ?side1 ?side2 A5.out).mono ?_); (case side1 => repeat (first | exact HR0.out | (with_reducible refine Kd.C_alloc ?_ _) | (with_reducible refine Kd.C_drewN ?_ _) | (with_reducible refine Kd.C_drew ?_))); (case side2 => exact HC0.out); rintro e w32 ⟨v222, rfl, ho0, hb⟩; refine ⟨_, rfl, ?_⟩; have n0_ := Aside0.mk (Kd.Q_lower ho0 (below_size (by repeat (first | (with_reducible first | exact HB.out | apply below_alloc | apply pw_below_drewN | apply below_drew1) | exact HB.out)))); have n1_ := Aside0.mk (below_step (by repeat (first | (with_reducible first | exact HB.out | apply below_alloc | apply pw_below_drewN | apply below_drew1) | exact HB.out)) hb); clear HB; have HO223 := n0_; have HB := n1_; clear n0_ n1_; (try clear hb); (try clear hb2); (try clear hk); (try clear hi); (try clear ho0); obtain ⟨Ao33, co33, eo33, _⟩ := Kd.Q_slice HO223.out; subst eo33) | ((with_reducible refine gate_callee (f := 16) rfl ?_); refine goesL_ (some 27) rfl rfl Tryd.func16 (by kernel_rfl) rfl #[.slice Ao33 t221.length co33] rfl (by (try simp only [List.map_toArray, List.map_cons, List.map_nil]); first | done | rfl | (simp only [List.length_drop, List.length_take]; rfl)) ?_; (with_reducible refine (laws_numberLetters.calls k _ _ t221 t232 _ ?side1 ?side2 A26.out).mono ?_); (case side1 => repeat (first | exact (Kd.Q_reads' HO223.out).2.2 | (with_reducible refine Kd.C_alloc ?_ _) | (with_reducible refine Kd.C_drewN ?_ _) | (with_reducible refine Kd.C_drew ?_))); (case side2 => exact (Kd.Q_reads' HO223.out).2.1); rintro e w34 ⟨v233, rfl, ho0, hb⟩; refine ⟨_, rfl, ?_⟩; have n0_ := Aside0.mk (Kd.Q_elder' (by (with_reducible repeat (first | apply Kd.Q_alloc | apply Kd.Q_drewN | apply Kd.Q_drew)); exact HO223.out) (Kd.R_base ho0) hb); have n1_ := Aside0.mk (Kd.R_lower (Kd.R_new' ho0 (Kd.Q_lt (by (with_reducible repeat (first | apply Kd.Q_alloc | apply Kd.Q_drewN | apply Kd.Q_drew)); exact HO223.out))) (below_size (by repeat (first | (with_reducible first | exact HB.out | apply below_alloc | apply pw_below_drewN | apply below_drew1) | exact HB.out)))); have n2_ := Aside0.mk (below_step (by repeat (first | (with_reducible first | exact HB.out | apply below_alloc | apply pw_below_drewN | apply below_drew1) | exact HB.out)) hb); clear HO223; clear HB; have HO223 := n0_; have HO234 := n1_; have HB := n2_; clear n0_ n1_ n2_; (try clear hb); (try clear hb2); (try clear hk); (try clear hi); (try clear ho0); obtain ⟨Ao35, co35, eo35⟩ := Kd.R_slice HO234.out; subst eo35) | ((with_reducible refine gate_callee (f := 15) rfl ?_); refine goesL_ (some 30) rfl rfl Tryd.func15 (by kernel_rfl) rfl #[.slice Ao35 t232.length co35, .bool a1, .int .i64 (wrap64 (Int.tmod a2 61))] rfl (by (try simp only [List.map_toArray, List.map_cons, List.map_nil]); first | done | rfl | (simp only [List.length_drop, List.length_take]; rfl)) ?_; (with_reducible refine (impl_NumberMade.calls _ _ t232 a1 (wrap64 (Int.tmod a2 61)) t235 _ ?side1 ?side2 A27.out).mono ?_); (case side1 => repeat (first | exact (Kd.R_reads' HO234.out).2.2 | (with_reducible refine Kd.C_alloc ?_ _) | (with_reducible refine Kd.C_drewN ?_ _) | (with_reducible refine Kd.C_drew ?_))); (case side2 => exact (Kd.R_reads' HO234.out).2.1); rintro e w36 ⟨v236, rfl, ho0, hb⟩; refine ⟨_, rfl, ?_⟩; have n0_ := Aside0.mk (Kd.Q_elder' (by (with_reducible repeat (first | apply Kd.Q_alloc | apply Kd.Q_drewN | apply Kd.Q_drew)); exact HO223.out) (Kd.R_base ho0) hb); have n1_ := Aside0.mk (Kd.R_elder' (by (with_reducible repeat (first | apply Kd.R_alloc | apply Kd.R_drewN | apply Kd.R_drew)); exact HO234.out) (Kd.R_base ho0) hb); have n2_ := Aside0.mk (Kd.R_lower (Kd.R_new' (Kd.R_new' ho0 (Kd.Q_lt (by (with_reducible repeat (first | apply Kd.Q_alloc | apply Kd.Q_drewN | apply Kd.Q_drew)); exact HO223.out))) (Kd.R_lt (by (with_reducible repeat (first | apply Kd.R_alloc | apply Kd.R_drewN | apply Kd.R_drew)); exact HO234.out))) (below_size (by repeat (first | (with_reducible first | exact HB.out | apply below_alloc | apply pw_below_drewN | apply below_drew1) | exact HB.out)))); have n3_ := Aside0.mk (below_step (by repeat (first | (with_reducible first | exact HB.out | apply below_alloc | apply pw_below_drewN | apply below_drew1) | exact HB.out)) hb); clear HO223; clear HO234; clear HB; have HO223 := n0_; have HO234 := n1_; have HO237 := n2_; have HB := n3_; clear n0_ n1_ n2_ n3_; (try clear hb); (try clear hb2); (try clear hk); (try clear hi); (try clear ho0)) | ((with_reducible refine gate_callee (f := 17) rfl ?_); refine goesL_ (some 34) rfl rfl Tryd.func17 (by kernel_rfl) rfl #[.slice Ao33 t221.length co33, .bool a1, .int .i64 (wrap64 (Int.tmod a2 61))] rfl (by (try simp only [List.map_toArray, List.map_cons, List.map_nil]); first | done | rfl | (simp only [List.length_drop, List.length_take]; rfl)) ?_; (with_reducible refine (spec_NumberBytes.calls k _ _ t221 a1 (wrap64 (Int.tmod a2 61)) t238 _ ?side1 ?side2 A28.out).mono ?_); (case side1 => repeat (first | exact (Kd.Q_reads' HO223.out).2.2 | (with_reducible refine Kd.C_alloc ?_ _) | (with_reducible refine Kd.C_drewN ?_ _) | (with_reducible refine Kd.C_drew ?_))); (case side2 => exact (Kd.Q_reads' HO223.out).2.1); rintro e w37 ⟨v239, rfl, ho0, hb⟩; refine ⟨_, rfl, ?_⟩; have n0_ := Aside0.mk (Kd.Q_elder' (by (with_reducible repeat (first | apply Kd.Q_alloc | apply Kd.Q_drewN | apply Kd.Q_drew)); exact HO223.out) (Kd.R_base ho0) hb); have n1_ := Aside0.mk (Kd.R_elder' (by (with_reducible repeat (first | apply Kd.R_alloc | apply Kd.R_drewN | apply Kd.R_drew)); exact HO234.out) (Kd.R_base ho0) hb); have n2_ := Aside0.mk (Kd.R_elder' (by (with_reducible repeat (first | apply Kd.R_alloc | apply Kd.R_drewN | apply Kd.R_drew)); exact HO237.out) (Kd.R_base ho0) hb); have n3_ := Aside0.mk (Kd.R_lower (Kd.R_new' (Kd.R_new' (Kd.R_new' ho0 (Kd.Q_lt (by (with_reducible repeat (first | apply Kd.Q_alloc | apply Kd.Q_drewN | apply Kd.Q_drew)); exact HO223.out))) (Kd.R_lt (by (with_reducible repeat (first | apply Kd.R_alloc | apply Kd.R_drewN | apply Kd.R_drew)); exact HO234.out))) (Kd.R_lt (by (with_reducible repeat (first | apply Kd.R_alloc | apply Kd.R_drewN | apply Kd.R_drew)); exact HO237.out))) (below_size (by repeat (first | (with_reducible first | exact HB.out | apply below_alloc | apply pw_below_drewN | apply below_drew1) | exact HB.out)))); have n4_ := Aside0.mk (below_step (by repeat (first | (with_reducible first | exact HB.out | apply below_alloc | apply pw_below_drewN | apply below_drew1) | exact HB.out)) hb); clear HO223; clear HO234; clear HO237; clear HB; have HO223 := n0_; have HO234 := n1_; have HO237 := n2_; have HO240 := n3_; have HB := n4_; clear n0_ n1_ n2_ n3_ n4_; (try clear hb); (try clear hb2); (try clear hk); (try clear hi); (try clear ho0); obtain ⟨Ao38, co38, eo38⟩ := Kd.R_slice HO237.out; subst eo38; obtain ⟨Ao39, co39, eo39⟩ := Kd.R_slice HO240.out; subst eo39) | ((with_reducible refine gate_callee (f := 14) rfl ?_); refine goesL_ (some 35) rfl rfl Tryd.func14 (by kernel_rfl) rfl #[.slice Ao38 t235.length co38, .slice Ao39 t238.length co39] rfl (by (try simp only [List.map_toArray, List.map_cons, List.map_nil]); first | done | rfl | (simp only [List.length_drop, List.length_take]; rfl)) ?_; (with_reducible refine (spec_NumberSame.calls _ _ t235 _ _ t238 true _ ?side1 ?side2 ?side3 ?side4 A29.out).mono ?_); (case side1 => repeat (first | exact (Kd.R_reads' HO237.out).2.2 | (with_reducible refine Kd.C_alloc ?_ _) | (with_reducible refine Kd.C_drewN ?_ _) | (with_reducible refine Kd.C_drew ?_))); (case side2 => exact (Kd.R_reads' HO237.out).2.1); (case side3 => repeat (first | exact (Kd.R_reads' HO240.out).2.2 | (with_reducible refine Kd.C_alloc ?_ _) | (with_reducible refine Kd.C_drewN ?_ _) | (with_reducible refine Kd.C_drew ?_))); (case side4 => exact (Kd.R_reads' HO240.out).2.1); rintro e w' ⟨rfl, ⟨nd, rfl⟩⟩; refine ⟨_, rfl, ?_⟩) | (go_at_call 12; (with_reducible refine (laws_numberAwake.calls k  t242 _ A31.out ?side99).mono ?_); (case side99 => exact HT.out _ (by repeat (first | (with_reducible first | exact HB.out | apply below_alloc | apply pw_below_drewN | apply below_drew1) | exact HB.out))); rintro e w40 ⟨rfl, hb⟩; have n0_ := Aside0.mk (Kd.Q_below (by (with_reducible repeat (first | apply Kd.Q_alloc | apply Kd.Q_drewN | apply Kd.Q_drew)); exact HO223.out) hb); have n1_ := Aside0.mk (Kd.R_below (by (with_reducible repeat (first | apply Kd.R_alloc | apply Kd.R_drewN | apply Kd.R_drew)); exact HO234.out) hb); have n2_ := Aside0.mk (Kd.R_below (by (with_reducible repeat (first | apply Kd.R_alloc | apply Kd.R_drewN | apply Kd.R_drew)); exact HO237.out) hb); have n3_ := Aside0.mk (Kd.R_below (by (with_reducible repeat (first | apply Kd.R_alloc | apply Kd.R_drewN | apply Kd.R_drew)); exact HO240.out) hb); have n4_ := Aside0.mk (below_step (by repeat (first | (with_reducible first | exact HB.out | apply below_alloc | apply pw_below_drewN | apply below_drew1) | exact HB.out)) hb); clear HO223; clear HO234; clear HO237; clear HO240; clear HB; have HO223 := n0_; have HO234 := n1_; have HO237 := n2_; have HO240 := n3_; have HB := n4_; clear n0_ n1_ n2_ n3_ n4_; (try clear hb); (try clear hb2); (try clear hk); (try clear hi)))
        go_ret
        exact ⟨by first | rfl | (simp [errW_none, errW_some] <;> rfl) | (simp [*, errW_none, errW_some] <;> rfl), by repeat (first | (with_reducible first | exact HB.out | apply below_alloc | apply pw_below_drewN | apply below_drew1) | exact HB.out)⟩
      · replace c30 := Bool.eq_false_iff.mpr c30
        subst c30
        have H1 : (none) = some r := by rw [if_neg (show ¬ (false = true) by decide)] at H; exact H
        clear H
        have H := H1
        clear H1
        exact absurd H (by simp)
/-- THE ONE PURE STATEMENT of laws_FnNumberMade: yours. -/
def laws_FnNumberMade.Pure : Prop := ∀ (l0 : List Int) (a1 : Bool) (a2 : Int), l0.length ≤ maxLen → l0.length * 1 ≤ 140737488351232 → (∀ x ∈ l0, (Lit.int .u8 x).wf = true) → (Lit.int .i8 a2).wf = true → ∃ k, laws_FnNumberMade.f k l0 a1 a2 = some true
-- GIVEN: function 18 (bytes_Compare)

/-! ### laws_numberLess: function 19 -/
def laws_numberLess.f (l0 : List Int) (a1 : Bool) (a2 : Int) (l3 : List Int) (a4 : Bool) (a5 : Int) : Option (Bool) := if (a1 != a4) = true then (some a1) else (if a2 < a5 then (if a2 > a5 then (if a1 = true then (some true) else (some true)) else (if a2 = a5 then ((bytes_Compare.f l0 l3).bind fun t243 => (if a1 = true then (some (decide (t243 > 0))) else (some true))) else (if a1 = true then (some false) else (some true)))) else (if a2 = a5 then ((bytes_Compare.f l0 l3).bind fun t244 => (if a2 > a5 then (if a1 = true then (some true) else (some (decide (t244 < 0)))) else ((bytes_Compare.f l0 l3).bind fun t245 => (if a1 = true then (some (decide (t245 > 0))) else (some (decide (t244 < 0))))))) else (if a2 > a5 then (if a1 = true then (some true) else (some false)) else (if a1 = true then (some false) else (some false)))))
set_option maxHeartbeats 8000000 in
set_option maxRecDepth 100000 in
theorem laws_numberLess.calls (A0 : Option Addr) (c0 : Nat) (l0 : List Int) (a1 : Bool) (a2 : Int) (A3 : Option Addr) (c3 : Nat) (l3 : List Int) (a4 : Bool) (a5 : Int) (r : Bool) (w : World) (hr0 : Kd.C (Kd.int .u8) w A0 l0.length l0) (hc0 : l0.length ≤ c0) (hr3 : Kd.C (Kd.int .u8) w A3 l3.length l3) (hc3 : l3.length ≤ c3) (h : laws_numberLess.f l0 a1 a2 l3 a4 a5 = some r) :
    Calls Tryd.prog 19 #[.slice A0 l0.length c0, .bool a1, .int .i64 a2, .slice A3 l3.length c3, .bool a4, .int .i64 a5] w fun e w' => e = .returned (.bool r) ∧ Drawn0 w w' := by
  have HR0 := Aside0.mk hr0
  have HC0 := Aside0.mk hc0
  clear hr0 hc0
  have HR3 := Aside0.mk hr3
  have HC3 := Aside0.mk hc3
  clear hr3 hc3
  have H : (if (a1 != a4) = true then (some a1) else (if a2 < a5 then (if a2 > a5 then (if a1 = true then (some true) else (some true)) else (if a2 = a5 then ((bytes_Compare.f l0 l3).bind fun t243 => (if a1 = true then (some (decide (t243 > 0))) else (some true))) else (if a1 = true then (some false) else (some true)))) else (if a2 = a5 then ((bytes_Compare.f l0 l3).bind fun t244 => (if a2 > a5 then (if a1 = true then (some true) else (some (decide (t244 < 0)))) else ((bytes_Compare.f l0 l3).bind fun t245 => (if a1 = true then (some (decide (t245 > 0))) else (some (decide (t244 < 0))))))) else (if a2 > a5 then (if a1 = true then (some true) else (some false)) else (if a1 = true then (some false) else (some false)))))) = some r := h
  clear h
  by_cases c7 : (a1 != a4) = true
  · rw [if_pos c7] at H
    have c7b0 : (a1 != a4) = true := c7
    (try (have c7b1 : decide (a1 = a4) = false := by simpa using c7))
    (try (have c7b2 : (a1 == a4) = false := by simpa using c7))
    (try (have c7b3 : ¬ (a1 = a4) := by simpa using c7))
    clear c7
    obtain rfl := Option.some.inj H
    go_enter Tryd.func19, Tryd.ntmps19
    go_wp2
    go_ret
    exact ⟨by first | rfl | (simp; done) | (simp [*]; done), by repeat (first | exact Drawn0.refl _ | apply Drawn0.step)⟩
  · rw [if_neg c7] at H
    have c7b0 : (a1 != a4) = false := by simpa using c7
    (try (have c7b1 : decide (a1 = a4) = true := by simpa using c7))
    (try (have c7b2 : (a1 == a4) = true := by simpa using c7))
    clear c7
    by_cases c8 : a2 < a5
    · rw [if_pos c8] at H
      have c8b0 : decide (a2 < a5) = true := decide_eq_true c8
      clear c8
      by_cases c9 : a2 > a5
      · rw [if_pos c9] at H
        have c9b0 : decide (a5 < a2) = true := decide_eq_true c9
        clear c9
        by_cases c10 : a1 = true
        · subst c10
          have H1 : (some true) = some r := by rw [if_pos rfl] at H; exact H
          clear H
          have H := H1
          clear H1
          obtain rfl := Option.some.inj H
          go_enter Tryd.func19, Tryd.ntmps19
          go_wp2
          go_ret
          exact ⟨by first | rfl | (simp; done) | (simp [*]; done), by repeat (first | exact Drawn0.refl _ | apply Drawn0.step)⟩
        · replace c10 := Bool.eq_false_iff.mpr c10
          subst c10
          have H1 : (some true) = some r := by rw [if_neg (show ¬ (false = true) by decide)] at H; exact H
          clear H
          have H := H1
          clear H1
          obtain rfl := Option.some.inj H
          go_enter Tryd.func19, Tryd.ntmps19
          go_wp2
          go_ret
          exact ⟨by first | rfl | (simp; done) | (simp [*]; done), by repeat (first | exact Drawn0.refl _ | apply Drawn0.step)⟩
      · rw [if_neg c9] at H
        have c9b0 : decide (a5 < a2) = false := decide_eq_false c9
        clear c9
        by_cases c11 : a2 = a5
        · rw [if_pos c11] at H
          have c11b0 : (a2 == a5) = true := beq_iff_eq.mpr c11
          have c11b1 : (a2 != a5) = false := bne_eq_false_iff_eq.mpr c11
          clear c11
          replace H := Option.bind_eq_some_iff.mp H
          obtain ⟨t243, A120, H⟩ := H
          replace H : (if a1 = true then (some (decide (t243 > 0))) else (some true)) = some r := H
          have A12 := Aside0.mk A120
          clear A120
          by_cases c13 : a1 = true
          · subst c13
            have H1 : (some (decide (t243 > 0))) = some r := by rw [if_pos rfl] at H; exact H
            clear H
            have H := H1
            clear H1
            obtain rfl := Option.some.inj H
            go_enter Tryd.func19, Tryd.ntmps19
            go_wp2_with (first | (go_at_call 18; (with_reducible refine (bytes_Compare.calls _ _ l0 _ _ l3 t243 _ ?side1 ?side2 ?side3 ?side4 A12.out).mono ?_); (case side1 => repeat (first | exact HR0.out | (with_reducible refine Kd.C_alloc ?_ _) | (with_reducible refine Kd.C_drewN ?_ _) | (with_reducible refine Kd.C_drew ?_))); (case side2 => exact HC0.out); (case side3 => repeat (first | exact HR3.out | (with_reducible refine Kd.C_alloc ?_ _) | (with_reducible refine Kd.C_drewN ?_ _) | (with_reducible refine Kd.C_drew ?_))); (case side4 => exact HC3.out); rintro e w' ⟨rfl, ⟨nd, rfl⟩⟩))
            go_ret
            exact ⟨by first | rfl | (simp; done) | (simp [*]; done), by repeat (first | exact Drawn0.refl _ | apply Drawn0.step)⟩
          · replace c13 := Bool.eq_false_iff.mpr c13
            subst c13
            have H1 : (some true) = some r := by rw [if_neg (show ¬ (false = true) by decide)] at H; exact H
            clear H
            have H := H1
            clear H1
            obtain rfl := Option.some.inj H
            go_enter Tryd.func19, Tryd.ntmps19
            go_wp2_with (first | (go_at_call 18; (with_reducible refine (bytes_Compare.calls _ _ l0 _ _ l3 t243 _ ?side1 ?side2 ?side3 ?side4 A12.out).mono ?_); (case side1 => repeat (first | exact HR0.out | (with_reducible refine Kd.C_alloc ?_ _) | (with_reducible refine Kd.C_drewN ?_ _) | (with_reducible refine Kd.C_drew ?_))); (case side2 => exact HC0.out); (case side3 => repeat (first | exact HR3.out | (with_reducible refine Kd.C_alloc ?_ _) | (with_reducible refine Kd.C_drewN ?_ _) | (with_reducible refine Kd.C_drew ?_))); (case side4 => exact HC3.out); rintro e w' ⟨rfl, ⟨nd, rfl⟩⟩))
            go_ret
            exact ⟨by first | rfl | (simp; done) | (simp [*]; done), by repeat (first | exact Drawn0.refl _ | apply Drawn0.step)⟩
        · rw [if_neg c11] at H
          have c11b0 : (a2 == a5) = false := beq_eq_false_iff_ne.mpr c11
          have c11b1 : (a2 != a5) = true := bne_iff_ne.mpr c11
          by_cases c14 : a1 = true
          · subst c14
            have H1 : (some false) = some r := by rw [if_pos rfl] at H; exact H
            clear H
            have H := H1
            clear H1
            obtain rfl := Option.some.inj H
            go_enter Tryd.func19, Tryd.ntmps19
            go_wp2
            go_ret
            exact ⟨by first | rfl | (simp; done) | (simp [*]; done), by repeat (first | exact Drawn0.refl _ | apply Drawn0.step)⟩
          · replace c14 := Bool.eq_false_iff.mpr c14
            subst c14
            have H1 : (some true) = some r := by rw [if_neg (show ¬ (false = true) by decide)] at H; exact H
            clear H
            have H := H1
            clear H1
            obtain rfl := Option.some.inj H
            go_enter Tryd.func19, Tryd.ntmps19
            go_wp2
            go_ret
            exact ⟨by first | rfl | (simp; done) | (simp [*]; done), by repeat (first | exact Drawn0.refl _ | apply Drawn0.step)⟩
    · rw [if_neg c8] at H
      have c8b0 : decide (a2 < a5) = false := decide_eq_false c8
      clear c8
      by_cases c15 : a2 = a5
      · rw [if_pos c15] at H
        have c15b0 : (a2 == a5) = true := beq_iff_eq.mpr c15
        have c15b1 : (a2 != a5) = false := bne_eq_false_iff_eq.mpr c15
        clear c15
        replace H := Option.bind_eq_some_iff.mp H
        obtain ⟨t244, A160, H⟩ := H
        replace H : (if a2 > a5 then (if a1 = true then (some true) else (some (decide (t244 < 0)))) else ((bytes_Compare.f l0 l3).bind fun t245 => (if a1 = true then (some (decide (t245 > 0))) else (some (decide (t244 < 0)))))) = some r := H
        have A16 := Aside0.mk A160
        clear A160
        by_cases c17 : a2 > a5
        · rw [if_pos c17] at H
          have c17b0 : decide (a5 < a2) = true := decide_eq_true c17
          clear c17
          by_cases c18 : a1 = true
          · subst c18
            have H1 : (some true) = some r := by rw [if_pos rfl] at H; exact H
            clear H
            have H := H1
            clear H1
            obtain rfl := Option.some.inj H
            go_enter Tryd.func19, Tryd.ntmps19
            go_wp2_with (first | (go_at_call 18; (with_reducible refine (bytes_Compare.calls _ _ l0 _ _ l3 t244 _ ?side1 ?side2 ?side3 ?side4 A16.out).mono ?_); (case side1 => repeat (first | exact HR0.out | (with_reducible refine Kd.C_alloc ?_ _) | (with_reducible refine Kd.C_drewN ?_ _) | (with_reducible refine Kd.C_drew ?_))); (case side2 => exact HC0.out); (case side3 => repeat (first | exact HR3.out | (with_reducible refine Kd.C_alloc ?_ _) | (with_reducible refine Kd.C_drewN ?_ _) | (with_reducible refine Kd.C_drew ?_))); (case side4 => exact HC3.out); rintro e w' ⟨rfl, ⟨nd, rfl⟩⟩))
            go_ret
            exact ⟨by first | rfl | (simp; done) | (simp [*]; done), by repeat (first | exact Drawn0.refl _ | apply Drawn0.step)⟩
          · replace c18 := Bool.eq_false_iff.mpr c18
            subst c18
            have H1 : (some (decide (t244 < 0))) = some r := by rw [if_neg (show ¬ (false = true) by decide)] at H; exact H
            clear H
            have H := H1
            clear H1
            obtain rfl := Option.some.inj H
            go_enter Tryd.func19, Tryd.ntmps19
            go_wp2_with (first | (go_at_call 18; (with_reducible refine (bytes_Compare.calls _ _ l0 _ _ l3 t244 _ ?side1 ?side2 ?side3 ?side4 A16.out).mono ?_); (case side1 => repeat (first | exact HR0.out | (with_reducible refine Kd.C_alloc ?_ _) | (with_reducible refine Kd.C_drewN ?_ _) | (with_reducible refine Kd.C_drew ?_))); (case side2 => exact HC0.out); (case side3 => repeat (first | exact HR3.out | (with_reducible refine Kd.C_alloc ?_ _) | (with_reducible refine Kd.C_drewN ?_ _) | (with_reducible refine Kd.C_drew ?_))); (case side4 => exact HC3.out); rintro e w' ⟨rfl, ⟨nd, rfl⟩⟩))
            go_ret
            exact ⟨by first | rfl | (simp; done) | (simp [*]; done), by repeat (first | exact Drawn0.refl _ | apply Drawn0.step)⟩
        · rw [if_neg c17] at H
          have c17b0 : decide (a5 < a2) = false := decide_eq_false c17
          clear c17
          replace H := Option.bind_eq_some_iff.mp H
          obtain ⟨t245, A190, H⟩ := H
          obtain rfl : t244 = t245 := Option.some.inj (A16.out.symm.trans A190)
          replace H : (if a1 = true then (some (decide (t244 > 0))) else (some (decide (t244 < 0)))) = some r := H
          have A19 := Aside0.mk A190
          clear A190
          by_cases c20 : a1 = true
          · subst c20
            have H1 : (some (decide (t244 > 0))) = some r := by rw [if_pos rfl] at H; exact H
            clear H
            have H := H1
            clear H1
            obtain rfl := Option.some.inj H
            go_enter Tryd.func19, Tryd.ntmps19
            go_wp2_with (first | (go_at_call 18; (with_reducible refine (bytes_Compare.calls _ _ l0 _ _ l3 t244 _ ?side1 ?side2 ?side3 ?side4 A16.out).mono ?_); (case side1 => repeat (first | exact HR0.out | (with_reducible refine Kd.C_alloc ?_ _) | (with_reducible refine Kd.C_drewN ?_ _) | (with_reducible refine Kd.C_drew ?_))); (case side2 => exact HC0.out); (case side3 => repeat (first | exact HR3.out | (with_reducible refine Kd.C_alloc ?_ _) | (with_reducible refine Kd.C_drewN ?_ _) | (with_reducible refine Kd.C_drew ?_))); (case side4 => exact HC3.out); rintro e w' ⟨rfl, ⟨nd, rfl⟩⟩) | (go_at_call 18; (with_reducible refine (bytes_Compare.calls _ _ l0 _ _ l3 t244 _ ?side1 ?side2 ?side3 ?side4 A19.out).mono ?_); (case side1 => repeat (first | exact HR0.out | (with_reducible refine Kd.C_alloc ?_ _) | (with_reducible refine Kd.C_drewN ?_ _) | (with_reducible refine Kd.C_drew ?_))); (case side2 => exact HC0.out); (case side3 => repeat (first | exact HR3.out | (with_reducible refine Kd.C_alloc ?_ _) | (with_reducible refine Kd.C_drewN ?_ _) | (with_reducible refine Kd.C_drew ?_))); (case side4 => exact HC3.out); rintro e w' ⟨rfl, ⟨nd, rfl⟩⟩))
            go_ret
            exact ⟨by first | rfl | (simp; done) | (simp [*]; done), by repeat (first | exact Drawn0.refl _ | apply Drawn0.step)⟩
          · replace c20 := Bool.eq_false_iff.mpr c20
            subst c20
            have H1 : (some (decide (t244 < 0))) = some r := by rw [if_neg (show ¬ (false = true) by decide)] at H; exact H
            clear H
            have H := H1
            clear H1
            obtain rfl := Option.some.inj H
            go_enter Tryd.func19, Tryd.ntmps19
            go_wp2_with (first | (go_at_call 18; (with_reducible refine (bytes_Compare.calls _ _ l0 _ _ l3 t244 _ ?side1 ?side2 ?side3 ?side4 A16.out).mono ?_); (case side1 => repeat (first | exact HR0.out | (with_reducible refine Kd.C_alloc ?_ _) | (with_reducible refine Kd.C_drewN ?_ _) | (with_reducible refine Kd.C_drew ?_))); (case side2 => exact HC0.out); (case side3 => repeat (first | exact HR3.out | (with_reducible refine Kd.C_alloc ?_ _) | (with_reducible refine Kd.C_drewN ?_ _) | (with_reducible refine Kd.C_drew ?_))); (case side4 => exact HC3.out); rintro e w' ⟨rfl, ⟨nd, rfl⟩⟩) | (go_at_call 18; (with_reducible refine (bytes_Compare.calls _ _ l0 _ _ l3 t244 _ ?side1 ?side2 ?side3 ?side4 A19.out).mono ?_); (case side1 => repeat (first | exact HR0.out | (with_reducible refine Kd.C_alloc ?_ _) | (with_reducible refine Kd.C_drewN ?_ _) | (with_reducible refine Kd.C_drew ?_))); (case side2 => exact HC0.out); (case side3 => repeat (first | exact HR3.out | (with_reducible refine Kd.C_alloc ?_ _) | (with_reducible refine Kd.C_drewN ?_ _) | (with_reducible refine Kd.C_drew ?_))); (case side4 => exact HC3.out); rintro e w' ⟨rfl, ⟨nd, rfl⟩⟩))
            go_ret
            exact ⟨by first | rfl | (simp; done) | (simp [*]; done), by repeat (first | exact Drawn0.refl _ | apply Drawn0.step)⟩
      · rw [if_neg c15] at H
        have c15b0 : (a2 == a5) = false := beq_eq_false_iff_ne.mpr c15
        have c15b1 : (a2 != a5) = true := bne_iff_ne.mpr c15
        by_cases c21 : a2 > a5
        · rw [if_pos c21] at H
          have c21b0 : decide (a5 < a2) = true := decide_eq_true c21
          clear c21
          by_cases c22 : a1 = true
          · subst c22
            have H1 : (some true) = some r := by rw [if_pos rfl] at H; exact H
            clear H
            have H := H1
            clear H1
            obtain rfl := Option.some.inj H
            go_enter Tryd.func19, Tryd.ntmps19
            go_wp2
            go_ret
            exact ⟨by first | rfl | (simp; done) | (simp [*]; done), by repeat (first | exact Drawn0.refl _ | apply Drawn0.step)⟩
          · replace c22 := Bool.eq_false_iff.mpr c22
            subst c22
            have H1 : (some false) = some r := by rw [if_neg (show ¬ (false = true) by decide)] at H; exact H
            clear H
            have H := H1
            clear H1
            obtain rfl := Option.some.inj H
            go_enter Tryd.func19, Tryd.ntmps19
            go_wp2
            go_ret
            exact ⟨by first | rfl | (simp; done) | (simp [*]; done), by repeat (first | exact Drawn0.refl _ | apply Drawn0.step)⟩
        · rw [if_neg c21] at H
          have c21b0 : decide (a5 < a2) = false := decide_eq_false c21
          clear c21
          by_cases c23 : a1 = true
          · subst c23
            have H1 : (some false) = some r := by rw [if_pos rfl] at H; exact H
            clear H
            have H := H1
            clear H1
            obtain rfl := Option.some.inj H
            go_enter Tryd.func19, Tryd.ntmps19
            go_wp2
            go_ret
            exact ⟨by first | rfl | (simp; done) | (simp [*]; done), by repeat (first | exact Drawn0.refl _ | apply Drawn0.step)⟩
          · replace c23 := Bool.eq_false_iff.mpr c23
            subst c23
            have H1 : (some false) = some r := by rw [if_neg (show ¬ (false = true) by decide)] at H; exact H
            clear H
            have H := H1
            clear H1
            obtain rfl := Option.some.inj H
            go_enter Tryd.func19, Tryd.ntmps19
            go_wp2
            go_ret
            exact ⟨by first | rfl | (simp; done) | (simp [*]; done), by repeat (first | exact Drawn0.refl _ | apply Drawn0.step)⟩

/-! ### laws_FnNumberDecimals: function 5 -/
mutual
def laws_FnNumberDecimals.j0 : Nat → List Int → List Int → Bool → Bool → Int → Int → Bool → Option (Bool)
  | 0, _, _, _, _, _, _, _ => none
  | k + 1, x0, x1, x2, x3, x4, x5, x25 => if x25 = true then (some true) else ((laws_numberDigits.f k x0 18).bind fun t246 => ((laws_numberDigits.f k x1 18).bind fun t249 => (if (t246.length : Int) = 0 then (laws_FnNumberDecimals.j1 k x2 x3 x4 x5 t246 t249 true) else (laws_FnNumberDecimals.j1 k x2 x3 x4 x5 t246 t249 ((t249.length : Int) == 0)))))
def laws_FnNumberDecimals.j1 : Nat → Bool → Bool → Int → Int → List Int → List Int → Bool → Option (Bool)
  | 0, _, _, _, _, _, _, _ => none
  | k + 1, x2, x3, x4, x5, x13, x14, x37 => if x37 = true then ((laws_numberAwake.f k).bind fun t252 => (some t252)) else ((laws_numberLetters.f k x13).bind fun t253 => ((impl_NumberMade.f t253 x2 (wrap64 (Int.tmod x4 20))).bind fun t256 => ((laws_numberLetters.f k x14).bind fun t259 => ((impl_NumberMade.f t259 x3 (wrap64 (Int.tmod x5 20))).bind fun t262 => ((bytes_Compare.f t256 t262).bind fun t265 => ((laws_numberLess.f x13 x2 (wrap64 (Int.tmod x4 20)) x14 x3 (wrap64 (Int.tmod x5 20))).bind fun t266 => (if ((decide (t265 < 0)) == t266) = true then ((laws_numberLess.f x14 x3 (wrap64 (Int.tmod x5 20)) x13 x2 (wrap64 (Int.tmod x4 20))).bind fun t267 => (if ((decide (t265 > 0)) == t267) = true then ((laws_numberAwake.f k).bind fun t268 => (some t268)) else (none))) else (none))))))))
end
def laws_FnNumberDecimals.f (k : Nat) (l0 : List Int) (l1 : List Int) (a2 : Bool) (a3 : Bool) (a4 : Int) (a5 : Int) : Option (Bool) := if (l0.length : Int) > 2147483647 then (laws_FnNumberDecimals.j0 k l0 l1 a2 a3 a4 a5 true) else (laws_FnNumberDecimals.j0 k l0 l1 a2 a3 a4 a5 (decide ((l1.length : Int) > 2147483647)))
theorem laws_FnNumberDecimals.mono_l : ∀ k, (∀ y0 y1 y2 y3 y4 y5 y6, LeO (laws_FnNumberDecimals.j0 k y0 y1 y2 y3 y4 y5 y6) (laws_FnNumberDecimals.j0 (k + 1) y0 y1 y2 y3 y4 y5 y6)) ∧ (∀ y0 y1 y2 y3 y4 y5 y6, LeO (laws_FnNumberDecimals.j1 k y0 y1 y2 y3 y4 y5 y6) (laws_FnNumberDecimals.j1 (k + 1) y0 y1 y2 y3 y4 y5 y6))
  | 0 => ⟨fun _ _ _ _ _ _ _ r h => by simp [laws_FnNumberDecimals.j0] at h, fun _ _ _ _ _ _ _ r h => by simp [laws_FnNumberDecimals.j1] at h⟩
  | k + 1 => by
    obtain ⟨ih0, ih1⟩ := laws_FnNumberDecimals.mono_l k
    refine ⟨?_, ?_⟩
    · intro y0 y1 y2 y3 y4 y5 y6
      unfold laws_FnNumberDecimals.j0
      repeat' first
      | (with_reducible exact ih0 _ _ _ _ _ _ _)
      | (with_reducible exact ih1 _ _ _ _ _ _ _)
      | (with_reducible exact laws_numberAwake.mono _)
      | (with_reducible exact laws_numberDigits.mono _ _ _)
      | (with_reducible exact laws_numberLetters.mono _ _)
      | (with_reducible exact LeO.refl _)
      | (with_reducible exact LeO.none _)
      | (with_reducible refine LeO.ite ?_ ?_)
      | (with_reducible refine LeO.bind ?_ (fun _ => ?_))
      | exact ih0 _ _ _ _ _ _ _
      | exact ih1 _ _ _ _ _ _ _
      | exact laws_numberAwake.mono _
      | exact laws_numberDigits.mono _ _ _
      | exact laws_numberLetters.mono _ _
      | exact LeO.none _
      | refine LeO.ite ?_ ?_
      | refine LeO.bind ?_ (fun _ => ?_)
    · intro y0 y1 y2 y3 y4 y5 y6
      unfold laws_FnNumberDecimals.j1
      repeat' first
      | (with_reducible exact ih0 _ _ _ _ _ _ _)
      | (with_reducible exact ih1 _ _ _ _ _ _ _)
      | (with_reducible exact laws_numberAwake.mono _)
      | (with_reducible exact laws_numberDigits.mono _ _ _)
      | (with_reducible exact laws_numberLetters.mono _ _)
      | (with_reducible exact LeO.refl _)
      | (with_reducible exact LeO.none _)
      | (with_reducible refine LeO.ite ?_ ?_)
      | (with_reducible refine LeO.bind ?_ (fun _ => ?_))
      | exact ih0 _ _ _ _ _ _ _
      | exact ih1 _ _ _ _ _ _ _
      | exact laws_numberAwake.mono _
      | exact laws_numberDigits.mono _ _ _
      | exact laws_numberLetters.mono _ _
      | exact LeO.none _
      | refine LeO.ite ?_ ?_
      | refine LeO.bind ?_ (fun _ => ?_)
theorem laws_FnNumberDecimals.mono : ∀ a0 a1 a2 a3 a4 a5 k, LeO (laws_FnNumberDecimals.f k a0 a1 a2 a3 a4 a5) (laws_FnNumberDecimals.f (k + 1) a0 a1 a2 a3 a4 a5) := by
  intro a0 a1 a2 a3 a4 a5 k
  obtain ⟨ih0, ih1⟩ := laws_FnNumberDecimals.mono_l k
  unfold laws_FnNumberDecimals.f
  repeat' first
      | (with_reducible exact ih0 _ _ _ _ _ _ _)
      | (with_reducible exact ih1 _ _ _ _ _ _ _)
      | (with_reducible exact laws_numberAwake.mono _)
      | (with_reducible exact laws_numberDigits.mono _ _ _)
      | (with_reducible exact laws_numberLetters.mono _ _)
      | (with_reducible exact LeO.refl _)
      | (with_reducible exact LeO.none _)
      | (with_reducible refine LeO.ite ?_ ?_)
      | (with_reducible refine LeO.bind ?_ (fun _ => ?_))
      | exact ih0 _ _ _ _ _ _ _
      | exact ih1 _ _ _ _ _ _ _
      | exact laws_numberAwake.mono _
      | exact laws_numberDigits.mono _ _ _
      | exact laws_numberLetters.mono _ _
      | exact LeO.none _
      | refine LeO.ite ?_ ?_
      | refine LeO.bind ?_ (fun _ => ?_)
set_option maxHeartbeats 8000000 in
set_option maxRecDepth 100000 in
theorem laws_FnNumberDecimals.calls (k : Nat) (A0 : Option Addr) (c0 : Nat) (l0 : List Int) (A1 : Option Addr) (c1 : Nat) (l1 : List Int) (a2 : Bool) (a3 : Bool) (a4 : Int) (a5 : Int) (r : Bool) (w : World) (hr0 : Kd.C (Kd.int .u8) w A0 l0.length l0) (hc0 : l0.length ≤ c0) (hr1 : Kd.C (Kd.int .u8) w A1 l1.length l1) (hc1 : l1.length ≤ c1) (h : laws_FnNumberDecimals.f k l0 l1 a2 a3 a4 a5 = some r) (htab : Tab w) :
    Calls Tryd.prog 5 #[.slice A0 l0.length c0, .slice A1 l1.length c1, .bool a2, .bool a3, .int .i8 a4, .int .i8 a5] w fun e w' => e = .returned (.bool r) ∧ Below w.heap.size w w' := by
  have HT := Aside0.mk (tab_all htab)
  clear htab
  have HR0 := Aside0.mk hr0
  have HC0 := Aside0.mk hc0
  clear hr0 hc0
  have HR1 := Aside0.mk hr1
  have HC1 := Aside0.mk hc1
  clear hr1 hc1
  have HB := Aside0.mk (Below.refl w.heap.size w)
  have H : (if (l0.length : Int) > 2147483647 then (laws_FnNumberDecimals.j0 k l0 l1 a2 a3 a4 a5 true) else (laws_FnNumberDecimals.j0 k l0 l1 a2 a3 a4 a5 (decide ((l1.length : Int) > 2147483647)))) = some r := h
  clear h
  have HC7 := Aside0.mk H
  clear H
  go_enter Tryd.func5, Tryd.ntmps5
  go_upto_region 1 with (fail)
  go_cut [25] (fun v25 wc => ∃ (kq : Nat) (x25_6 : Bool), v25 = .bool x25_6 ∧ Aside0 (laws_FnNumberDecimals.j0 kq l0 l1 a2 a3 a4 a5 x25_6 = some r) ∧ Aside0 (kq ≤ k) ∧ Aside0 (Below w.heap.size w wc))
  case first =>
    have H := HC7.out
    clear HC7
    by_cases c8 : (l0.length : Int) > 2147483647
    · rw [if_pos c8] at H
      have c8b0 : decide (2147483647 < (l0.length : Int)) = true := decide_eq_true c8
      have c8b1 : decide (2147483647 < l0.length) = true := decide_eq_true (by omega)
      clear c8
      (first | rw [c8b0] | (simp only [i64_w, i32_w]; rw [c8b0]) | skip)
      have H' := Aside0.mk H
      clear H
      go_wp2
      go_meet
      case rel => exact ⟨_, (true), (by first | rfl | (simp; done) | (simp [*]; done)), H', ⟨by first | omega | exact Nat.le_refl _⟩, ⟨by repeat (first | (with_reducible first | exact HB.out | apply below_alloc | apply pw_below_drewN | apply below_drew1) | exact HB.out)⟩⟩
    · rw [if_neg c8] at H
      have c8b0 : decide (2147483647 < (l0.length : Int)) = false := decide_eq_false c8
      have c8b1 : decide (2147483647 < l0.length) = false := decide_eq_false (by omega)
      clear c8
      (first | rw [c8b0] | (simp only [i64_w, i32_w]; rw [c8b0]) | skip)
      have H' := Aside0.mk H
      clear H
      go_wp2
      go_meet
      case rel => exact ⟨_, (decide ((l1.length : Int) > 2147483647)), (by first | rfl | (simp; done) | (simp [*]; done)), H', ⟨by first | omega | exact Nat.le_refl _⟩, ⟨by repeat (first | (with_reducible first | exact HB.out | apply below_alloc | apply pw_below_drewN | apply below_drew1) | exact HB.out)⟩⟩
  case rest =>
    clear HC7
    try clear c1
    try clear p2
    try clear c5
    try clear c8
    try clear c8b0
    try clear c8b1
    obtain ⟨kq, x25_6, rfl, HA, HJ6, HB⟩ := hcut
    cases kq with
    | zero => exact absurd HA.out (by simp [laws_FnNumberDecimals.j0])
    | succ kj6 =>
      have H := HA.out
      clear HA
      simp only [laws_FnNumberDecimals.j0] at H
      by_cases c9 : x25_6 = true
      · subst c9
        have H1 : (some true) = some r := by rw [if_pos rfl] at H; exact H
        clear H
        have H := H1
        clear H1
        obtain rfl := Option.some.inj H
        go_wp2
        go_ret
        exact ⟨by first | rfl | (simp [errW_none, errW_some] <;> rfl) | (simp [*, errW_none, errW_some] <;> rfl), by repeat (first | (with_reducible first | exact HB.out | apply below_alloc | apply pw_below_drewN | apply below_drew1) | exact HB.out)⟩
      · replace c9 := Bool.eq_false_iff.mpr c9
        subst c9
        have H1 : ((laws_numberDigits.f kj6 l0 18).bind fun t246 => ((laws_numberDigits.f kj6 l1 18).bind fun t249 => (if (t246.length : Int) = 0 then (laws_FnNumberDecimals.j1 kj6 a2 a3 a4 a5 t246 t249 true) else (laws_FnNumberDecimals.j1 kj6 a2 a3 a4 a5 t246 t249 ((t249.length : Int) == 0))))) = some r := by rw [if_neg (show ¬ (false = true) by decide)] at H; exact H
        clear H
        have H := H1
        clear H1
        replace H := Option.bind_eq_some_iff.mp H
        obtain ⟨t246, A100, H⟩ := H
        replace H : ((laws_numberDigits.f kj6 l1 18).bind fun t249 => (if (t246.length : Int) = 0 then (laws_FnNumberDecimals.j1 kj6 a2 a3 a4 a5 t246 t249 true) else (laws_FnNumberDecimals.j1 kj6 a2 a3 a4 a5 t246 t249 ((t249.length : Int) == 0)))) = some r := H
        have A10 := Aside0.mk A100
        clear A100
        replace H := Option.bind_eq_some_iff.mp H
        obtain ⟨t249, A110, H⟩ := H
        replace H : (if (t246.length : Int) = 0 then (laws_FnNumberDecimals.j1 kj6 a2 a3 a4 a5 t246 t249 true) else (laws_FnNumberDecimals.j1 kj6 a2 a3 a4 a5 t246 t249 ((t249.length : Int) == 0))) = some r := H
        have A11 := Aside0.mk A110
        clear A110
        have HC12 := Aside0.mk H
        clear H
        go_upto_region 4 with (first | ((with_reducible refine gate_callee (f := 13) rfl ?_); refine goesL_ (some 27) rfl rfl Tryd.func13 (by kernel_rfl) rfl #[.slice A0 l0.length c0, .int .i64 18] rfl (by (try simp only [List.map_toArray, List.map_cons, List.map_nil]); first | done | rfl | (simp only [List.length_drop, List.length_take]; rfl)) ?_; (with_reducible refine (laws_numberDigits.calls kj6 _ _ l0 18 t246 _ ?side1 ?side2 A10.out).mono ?_); (case side1 => repeat (first | exact (Kd.C_below HR0.out HB.out) | (with_reducible refine Kd.C_alloc ?_ _) | (with_reducible refine Kd.C_drewN ?_ _) | (with_reducible refine Kd.C_drew ?_))); (case side2 => exact HC0.out); rintro e w13 ⟨v247, rfl, ho0, hb⟩; refine ⟨_, rfl, ?_⟩; have n0_ := Aside0.mk (Kd.Q_lower ho0 (below_size (by repeat (first | (with_reducible first | exact HB.out | apply below_alloc | apply pw_below_drewN | apply below_drew1) | exact HB.out)))); have n1_ := Aside0.mk (below_step (by repeat (first | (with_reducible first | exact HB.out | apply below_alloc | apply pw_below_drewN | apply below_drew1) | exact HB.out)) hb); clear HB; have HO248 := n0_; have HB := n1_; clear n0_ n1_; (try clear hb); (try clear hb2); (try clear hk); (try clear hi); (try clear ho0)) | ((with_reducible refine gate_callee (f := 13) rfl ?_); refine goesL_ (some 29) rfl rfl Tryd.func13 (by kernel_rfl) rfl #[.slice A1 l1.length c1, .int .i64 18] rfl (by (try simp only [List.map_toArray, List.map_cons, List.map_nil]); first | done | rfl | (simp only [List.length_drop, List.length_take]; rfl)) ?_; (with_reducible refine (laws_numberDigits.calls kj6 _ _ l1 18 t249 _ ?side1 ?side2 A11.out).mono ?_); (case side1 => repeat (first | exact (Kd.C_below HR1.out HB.out) | (with_reducible refine Kd.C_alloc ?_ _) | (with_reducible refine Kd.C_drewN ?_ _) | (with_reducible refine Kd.C_drew ?_))); (case side2 => exact HC1.out); rintro e w14 ⟨v250, rfl, ho0, hb⟩; refine ⟨_, rfl, ?_⟩; have n0_ := Aside0.mk (Kd.Q_elder' (by (with_reducible repeat (first | apply Kd.Q_alloc | apply Kd.Q_drewN | apply Kd.Q_drew)); exact HO248.out) (Kd.Q_base ho0) hb); have n1_ := Aside0.mk (Kd.Q_lower (Kd.Q_new' ho0 (Kd.Q_lt (by (with_reducible repeat (first | apply Kd.Q_alloc | apply Kd.Q_drewN | apply Kd.Q_drew)); exact HO248.out))) (below_size (by repeat (first | (with_reducible first | exact HB.out | apply below_alloc | apply pw_below_drewN | apply below_drew1) | exact HB.out)))); have n2_ := Aside0.mk (below_step (by repeat (first | (with_reducible first | exact HB.out | apply below_alloc | apply pw_below_drewN | apply below_drew1) | exact HB.out)) hb); clear HO248; clear HB; have HO248 := n0_; have HO251 := n1_; have HB := n2_; clear n0_ n1_ n2_; (try clear hb); (try clear hb2); (try clear hk); (try clear hi); (try clear ho0)))
        (try simp only [Act.put, List.setIfInBounds_toArray, List.set_cons_zero, List.set_cons_succ])
        go_cut [37] (fun v37 wc => ∃ (kq : Nat) (x37_11 : Bool), v37 = .bool x37_11 ∧ Aside0 (laws_FnNumberDecimals.j1 kq a2 a3 a4 a5 t246 t249 x37_11 = some r) ∧ Aside0 (kq ≤ kj6) ∧ Aside0 (Kd.Q (Kd.int .u8) 5 wc w.heap.size (fun k_ => some k_ ≠ (v250 : Value).ownBlock) v247 t246) ∧ Aside0 (Kd.Q (Kd.int .u8) 5 wc w.heap.size (fun k_ => some k_ ≠ (v247 : Value).ownBlock) v250 t249) ∧ Aside0 (Below w.heap.size w wc))
        case first =>
          have H := HC12.out
          clear HC12
          by_cases c15 : (t246.length : Int) = 0
          · rw [if_pos c15] at H
            have c15b0 : ((t246.length : Int) == 0) = true := beq_iff_eq.mpr c15
            have c15b1 : ((t246.length : Int) != 0) = false := bne_eq_false_iff_eq.mpr c15
            clear c15
            (first | rw [c15b0] | (simp only [i64_w, i32_w]; rw [c15b0]) | skip)
            have H' := Aside0.mk H
            clear H
            obtain ⟨Ao16, co16, eo16, _⟩ := Kd.Q_slice HO248.out
            subst eo16
            go_wp2
            go_meet
            case rel => exact ⟨_, (true), (by first | rfl | (simp; done) | (simp [*]; done)), H', ⟨by have := HJ6.out; first | omega | exact Nat.le_refl _⟩, ⟨by (with_reducible repeat (first | apply Kd.Q_alloc | apply Kd.Q_drewN | apply Kd.Q_drew)); exact Kd.Q_mono HO248.out (fun _ hk => hk.2)⟩, ⟨by (with_reducible repeat (first | apply Kd.Q_alloc | apply Kd.Q_drewN | apply Kd.Q_drew)); exact Kd.Q_mono HO251.out (fun _ hk => hk.2)⟩, ⟨by repeat (first | (with_reducible first | exact HB.out | apply below_alloc | apply pw_below_drewN | apply below_drew1) | exact HB.out)⟩⟩
          · rw [if_neg c15] at H
            have c15b0 : ((t246.length : Int) == 0) = false := beq_eq_false_iff_ne.mpr c15
            have c15b1 : ((t246.length : Int) != 0) = true := bne_iff_ne.mpr c15
            have c15b2 : ¬ (t246 = []) := fun h_ => c15 (by rw [h_]; rfl)
            (first | rw [c15b0] | (simp only [i64_w, i32_w]; rw [c15b0]) | skip)
            have H' := Aside0.mk H
            clear H
            obtain ⟨Ao17, co17, eo17, _⟩ := Kd.Q_slice HO248.out
            subst eo17
            obtain ⟨Ao18, co18, eo18, _⟩ := Kd.Q_slice HO251.out
            subst eo18
            go_wp2
            go_meet
            case rel => exact ⟨_, (((t249.length : Int) == 0)), (by first | rfl | (simp; done) | (simp [*]; done)), H', ⟨by have := HJ6.out; first | omega | exact Nat.le_refl _⟩, ⟨by (with_reducible repeat (first | apply Kd.Q_alloc | apply Kd.Q_drewN | apply Kd.Q_drew)); exact Kd.Q_mono HO248.out (fun _ hk => hk.2)⟩, ⟨by (with_reducible repeat (first | apply Kd.Q_alloc | apply Kd.Q_drewN | apply Kd.Q_drew)); exact Kd.Q_mono HO251.out (fun _ hk => hk.2)⟩, ⟨by repeat (first | (with_reducible first | exact HB.out | apply below_alloc | apply pw_below_drewN | apply below_drew1) | exact HB.out)⟩⟩
        case rest =>
          clear HC12
          try clear c1
          try clear p2
          try clear c5
          try clear c8
          try clear c8b0
          try clear c8b1
          try clear c9
          try clear c13
          try clear c15
          try clear c15b0
          try clear c15b1
          try clear c15b2
          try clear p2
          obtain ⟨kq, x37_11, rfl, HA, HJ11, HO_13, HO_14, HB⟩ := hcut
          cases kq with
          | zero => exact absurd HA.out (by simp [laws_FnNumberDecimals.j1])
          | succ kj11 =>
            have H := HA.out
            clear HA
            simp only [laws_FnNumberDecimals.j1] at H
            by_cases c19 : x37_11 = true
            · subst c19
              have H1 : ((laws_numberAwake.f kj11).bind fun t252 => (some t252)) = some r := by rw [if_pos rfl] at H; exact H
              clear H
              have H := H1
              clear H1
              replace H := Option.bind_eq_some_iff.mp H
              obtain ⟨t252, A200, H⟩ := H
              replace H : (some t252) = some r := H
              have A20 := Aside0.mk A200
              clear A200
              obtain rfl := Option.some.inj H
              go_wp2_with (first | ((with_reducible refine gate_callee (f := 12) rfl ?_); refine goesL_ (some 38) rfl rfl Tryd.func12 (by kernel_rfl) rfl #[] rfl (by (try simp only [List.map_toArray, List.map_cons, List.map_nil]); first | done | rfl | (simp only [List.length_drop, List.length_take]; rfl)) ?_; (with_reducible refine (laws_numberAwake.calls kj11  t252 _ A20.out ?side99).mono ?_); (case side99 => exact HT.out _ (by repeat (first | (with_reducible first | exact HB.out | apply below_alloc | apply pw_below_drewN | apply below_drew1) | exact HB.out))); rintro e w21 ⟨rfl, hb⟩; refine ⟨_, rfl, ?_⟩; have n0_ := Aside0.mk (Kd.Q_below (by (with_reducible repeat (first | apply Kd.Q_alloc | apply Kd.Q_drewN | apply Kd.Q_drew)); exact HO_13.out) hb); have n1_ := Aside0.mk (Kd.Q_below (by (with_reducible repeat (first | apply Kd.Q_alloc | apply Kd.Q_drewN | apply Kd.Q_drew)); exact HO_14.out) hb); have n2_ := Aside0.mk (below_step (by repeat (first | (with_reducible first | exact HB.out | apply below_alloc | apply pw_below_drewN | apply below_drew1) | exact HB.out)) hb); clear HO_13; clear HO_14; clear HB; have HO_13 := n0_; have HO_14 := n1_; have HB := n2_; clear n0_ n1_ n2_; (try clear hb); (try clear hb2); (try clear hk); (try clear hi)))
              go_ret
              exact ⟨by first | rfl | (simp [errW_none, errW_some] <;> rfl) | (simp [*, errW_none, errW_some] <;> rfl), by repeat (first | (with_reducible first | exact HB.out | apply below_alloc | apply pw_below_drewN | apply below_drew1) | exact HB.out)⟩
            · replace c19 := Bool.eq_false_iff.mpr c19
              subst c19
              have H1 : ((laws_numberLetters.f kj11 t246).bind fun t253 => ((impl_NumberMade.f t253 a2 (wrap64 (Int.tmod a4 20))).bind fun t256 => ((laws_numberLetters.f kj11 t249).bind fun t259 => ((impl_NumberMade.f t259 a3 (wrap64 (Int.tmod a5 20))).bind fun t262 => ((bytes_Compare.f t256 t262).bind fun t265 => ((laws_numberLess.f t246 a2 (wrap64 (Int.tmod a4 20)) t249 a3 (wrap64 (Int.tmod a5 20))).bind fun t266 => (if ((decide (t265 < 0)) == t266) = true then ((laws_numberLess.f t249 a3 (wrap64 (Int.tmod a5 20)) t246 a2 (wrap64 (Int.tmod a4 20))).bind fun t267 => (if ((decide (t265 > 0)) == t267) = true then ((laws_numberAwake.f kj11).bind fun t268 => (some t268)) else (none))) else (none)))))))) = some r := by rw [if_neg (show ¬ (false = true) by decide)] at H; exact H
              clear H
              have H := H1
              clear H1
              replace H := Option.bind_eq_some_iff.mp H
              obtain ⟨t253, A220, H⟩ := H
              replace H : ((impl_NumberMade.f t253 a2 (wrap64 (Int.tmod a4 20))).bind fun t256 => ((laws_numberLetters.f kj11 t249).bind fun t259 => ((impl_NumberMade.f t259 a3 (wrap64 (Int.tmod a5 20))).bind fun t262 => ((bytes_Compare.f t256 t262).bind fun t265 => ((laws_numberLess.f t246 a2 (wrap64 (Int.tmod a4 20)) t249 a3 (wrap64 (Int.tmod a5 20))).bind fun t266 => (if ((decide (t265 < 0)) == t266) = true then ((laws_numberLess.f t249 a3 (wrap64 (Int.tmod a5 20)) t246 a2 (wrap64 (Int.tmod a4 20))).bind fun t267 => (if ((decide (t265 > 0)) == t267) = true then ((laws_numberAwake.f kj11).bind fun t268 => (some t268)) else (none))) else (none))))))) = some r := H
              have A22 := Aside0.mk A220
              clear A220
              replace H := Option.bind_eq_some_iff.mp H
              obtain ⟨t256, A230, H⟩ := H
              replace H : ((laws_numberLetters.f kj11 t249).bind fun t259 => ((impl_NumberMade.f t259 a3 (wrap64 (Int.tmod a5 20))).bind fun t262 => ((bytes_Compare.f t256 t262).bind fun t265 => ((laws_numberLess.f t246 a2 (wrap64 (Int.tmod a4 20)) t249 a3 (wrap64 (Int.tmod a5 20))).bind fun t266 => (if ((decide (t265 < 0)) == t266) = true then ((laws_numberLess.f t249 a3 (wrap64 (Int.tmod a5 20)) t246 a2 (wrap64 (Int.tmod a4 20))).bind fun t267 => (if ((decide (t265 > 0)) == t267) = true then ((laws_numberAwake.f kj11).bind fun t268 => (some t268)) else (none))) else (none)))))) = some r := H
              have A23 := Aside0.mk A230
              clear A230
              replace H := Option.bind_eq_some_iff.mp H
              obtain ⟨t259, A240, H⟩ := H
              replace H : ((impl_NumberMade.f t259 a3 (wrap64 (Int.tmod a5 20))).bind fun t262 => ((bytes_Compare.f t256 t262).bind fun t265 => ((laws_numberLess.f t246 a2 (wrap64 (Int.tmod a4 20)) t249 a3 (wrap64 (Int.tmod a5 20))).bind fun t266 => (if ((decide (t265 < 0)) == t266) = true then ((laws_numberLess.f t249 a3 (wrap64 (Int.tmod a5 20)) t246 a2 (wrap64 (Int.tmod a4 20))).bind fun t267 => (if ((decide (t265 > 0)) == t267) = true then ((laws_numberAwake.f kj11).bind fun t268 => (some t268)) else (none))) else (none))))) = some r := H
              have A24 := Aside0.mk A240
              clear A240
              replace H := Option.bind_eq_some_iff.mp H
              obtain ⟨t262, A250, H⟩ := H
              replace H : ((bytes_Compare.f t256 t262).bind fun t265 => ((laws_numberLess.f t246 a2 (wrap64 (Int.tmod a4 20)) t249 a3 (wrap64 (Int.tmod a5 20))).bind fun t266 => (if ((decide (t265 < 0)) == t266) = true then ((laws_numberLess.f t249 a3 (wrap64 (Int.tmod a5 20)) t246 a2 (wrap64 (Int.tmod a4 20))).bind fun t267 => (if ((decide (t265 > 0)) == t267) = true then ((laws_numberAwake.f kj11).bind fun t268 => (some t268)) else (none))) else (none)))) = some r := H
              have A25 := Aside0.mk A250
              clear A250
              replace H := Option.bind_eq_some_iff.mp H
              obtain ⟨t265, A260, H⟩ := H
              replace H : ((laws_numberLess.f t246 a2 (wrap64 (Int.tmod a4 20)) t249 a3 (wrap64 (Int.tmod a5 20))).bind fun t266 => (if ((decide (t265 < 0)) == t266) = true then ((laws_numberLess.f t249 a3 (wrap64 (Int.tmod a5 20)) t246 a2 (wrap64 (Int.tmod a4 20))).bind fun t267 => (if ((decide (t265 > 0)) == t267) = true then ((laws_numberAwake.f kj11).bind fun t268 => (some t268)) else (none))) else (none))) = some r := H
              have A26 := Aside0.mk A260
              clear A260
              replace H := Option.bind_eq_some_iff.mp H
              obtain ⟨t266, A270, H⟩ := H
              replace H : (if ((decide (t265 < 0)) == t266) = true then ((laws_numberLess.f t249 a3 (wrap64 (Int.tmod a5 20)) t246 a2 (wrap64 (Int.tmod a4 20))).bind fun t267 => (if ((decide (t265 > 0)) == t267) = true then ((laws_numberAwake.f kj11).bind fun t268 => (some t268)) else (none))) else (none)) = some r := H
              have A27 := Aside0.mk A270
              clear A270
              by_cases c28 : ((decide (t265 < 0)) == t266) = true
              · rw [if_pos c28] at H
                have c28b0 : ((decide (t265 < 0)) == t266) = true := c28
                (try (have c28b1 : decide ((decide (t265 < 0)) = t266) = true := by simpa using c28))
                (try (have c28b2 : ((decide (t265 < 0)) == t266) = true := by simpa using c28))
                clear c28
                replace H := Option.bind_eq_some_iff.mp H
                obtain ⟨t267, A290, H⟩ := H
                replace H : (if ((decide (t265 > 0)) == t267) = true then ((laws_numberAwake.f kj11).bind fun t268 => (some t268)) else (none)) = some r := H
                have A29 := Aside0.mk A290
                clear A290
                by_cases c30 : ((decide (t265 > 0)) == t267) = true
                · rw [if_pos c30] at H
                  have c30b0 : ((decide (t265 > 0)) == t267) = true := c30
                  (try (have c30b1 : decide ((decide (t265 > 0)) = t267) = true := by simpa using c30))
                  (try (have c30b2 : ((decide (t265 > 0)) == t267) = true := by simpa using c30))
                  clear c30
                  replace H := Option.bind_eq_some_iff.mp H
                  obtain ⟨t268, A310, H⟩ := H
                  replace H : (some t268) = some r := H
                  have A31 := Aside0.mk A310
                  clear A310
                  obtain rfl := Option.some.inj H
                  obtain ⟨Ao32, co32, eo32, _⟩ := Kd.Q_slice HO_13.out
                  subst eo32
                  go_wp2_with (first | ((with_reducible refine gate_callee (f := 16) rfl ?_); refine goesL_ (some 46) rfl rfl Tryd.func16 (by kernel_rfl) rfl #[.slice Ao32 t246.length co32] rfl (by (try simp only [List.map_toArray, List.map_cons, List.map_nil]); first | done | rfl | (simp only [List.length_drop, List.length_take]; rfl)) ?_; (with_reducible refine (laws_numberLetters.calls kj11 _ _ t246 t253 _ ?side1 ?side2 A22.out).mono ?_); (case side1 => repeat (first | exact (Kd.Q_reads' HO_13.out).2.2 | (with_reducible refine Kd.C_alloc ?_ _) | (with_reducible refine Kd.C_drewN ?_ _) | (with_reducible refine Kd.C_drew ?_))); (case side2 => exact (Kd.Q_reads' HO_13.out).2.1); rintro e w33 ⟨v254, rfl, ho0, hb⟩; refine ⟨_, rfl, ?_⟩; have n0_ := Aside0.mk (Kd.Q_elder' (by (with_reducible repeat (first | apply Kd.Q_alloc | apply Kd.Q_drewN | apply Kd.Q_drew)); exact HO_13.out) (Kd.R_base ho0) hb); have n1_ := Aside0.mk (Kd.Q_elder' (by (with_reducible repeat (first | apply Kd.Q_alloc | apply Kd.Q_drewN | apply Kd.Q_drew)); exact HO_14.out) (Kd.R_base ho0) hb); have n2_ := Aside0.mk (Kd.R_lower (Kd.R_new' (Kd.R_new' ho0 (Kd.Q_lt (by (with_reducible repeat (first | apply Kd.Q_alloc | apply Kd.Q_drewN | apply Kd.Q_drew)); exact HO_13.out))) (Kd.Q_lt (by (with_reducible repeat (first | apply Kd.Q_alloc | apply Kd.Q_drewN | apply Kd.Q_drew)); exact HO_14.out))) (below_size (by repeat (first | (with_reducible first | exact HB.out | apply below_alloc | apply pw_below_drewN | apply below_drew1) | exact HB.out)))); have n3_ := Aside0.mk (below_step (by repeat (first | (with_reducible first | exact HB.out | apply below_alloc | apply pw_below_drewN | apply below_drew1) | exact HB.out)) hb); clear HO_13; clear HO_14; clear HB; have HO_13 := n0_; have HO_14 := n1_; have HO255 := n2_; have HB := n3_; clear n0_ n1_ n2_ n3_; (try clear hb); (try clear hb2); (try clear hk); (try clear hi); (try clear ho0); obtain ⟨Ao34, co34, eo34⟩ := Kd.R_slice HO255.out; subst eo34) | ((with_reducible refine gate_callee (f := 15) rfl ?_); refine goesL_ (some 49) rfl rfl Tryd.func15 (by kernel_rfl) rfl #[.slice Ao34 t253.length co34, .bool a2, .int .i64 (wrap64 (Int.tmod a4 20))] rfl (by (try simp only [List.map_toArray, List.map_cons, List.map_nil]); first | done | rfl | (simp only [List.length_drop, List.length_take]; rfl)) ?_; (with_reducible refine (impl_NumberMade.calls _ _ t253 a2 (wrap64 (Int.tmod a4 20)) t256 _ ?side1 ?side2 A23.out).mono ?_); (case side1 => repeat (first | exact (Kd.R_reads' HO255.out).2.2 | (with_reducible refine Kd.C_alloc ?_ _) | (with_reducible refine Kd.C_drewN ?_ _) | (with_reducible refine Kd.C_drew ?_))); (case side2 => exact (Kd.R_reads' HO255.out).2.1); rintro e w35 ⟨v257, rfl, ho0, hb⟩; refine ⟨_, rfl, ?_⟩; have n0_ := Aside0.mk (Kd.Q_elder' (by (with_reducible repeat (first | apply Kd.Q_alloc | apply Kd.Q_drewN | apply Kd.Q_drew)); exact HO_13.out) (Kd.R_base ho0) hb); have n1_ := Aside0.mk (Kd.Q_elder' (by (with_reducible repeat (first | apply Kd.Q_alloc | apply Kd.Q_drewN | apply Kd.Q_drew)); exact HO_14.out) (Kd.R_base ho0) hb); have n2_ := Aside0.mk (Kd.R_elder' (by (with_reducible repeat (first | apply Kd.R_alloc | apply Kd.R_drewN | apply Kd.R_drew)); exact HO255.out) (Kd.R_base ho0) hb); have n3_ := Aside0.mk (Kd.R_lower (Kd.R_new' (Kd.R_new' (Kd.R_new' ho0 (Kd.Q_lt (by (with_reducible repeat (first | apply Kd.Q_alloc | apply Kd.Q_drewN | apply Kd.Q_drew)); exact HO_13.out))) (Kd.Q_lt (by (with_reducible repeat (first | apply Kd.Q_alloc | apply Kd.Q_drewN | apply Kd.Q_drew)); exact HO_14.out))) (Kd.R_lt (by (with_reducible repeat (first | apply Kd.R_alloc | apply Kd.R_drewN | apply Kd.R_drew)); exact HO255.out))) (below_size (by repeat (first | (with_reducible first | exact HB.out | apply below_alloc | apply pw_below_drewN | apply below_drew1) | exact HB.out)))); have n4_ := Aside0.mk (below_step (by repeat (first | (with_reducible first | exact HB.out | apply below_alloc | apply pw_below_drewN | apply below_drew1) | exact HB.out)) hb); clear HO_13; clear HO_14; clear HO255; clear HB; have HO_13 := n0_; have HO_14 := n1_; have HO255 := n2_; have HO258 := n3_; have HB := n4_; clear n0_ n1_ n2_ n3_ n4_; (try clear hb); (try clear hb2); (try clear hk); (try clear hi); (try clear ho0); obtain ⟨Ao36, co36, eo36, _⟩ := Kd.Q_slice HO_14.out; subst eo36) | ((with_reducible refine gate_callee (f := 16) rfl ?_); refine goesL_ (some 51) rfl rfl Tryd.func16 (by kernel_rfl) rfl #[.slice Ao36 t249.length co36] rfl (by (try simp only [List.map_toArray, List.map_cons, List.map_nil]); first | done | rfl | (simp only [List.length_drop, List.length_take]; rfl)) ?_; (with_reducible refine (laws_numberLetters.calls kj11 _ _ t249 t259 _ ?side1 ?side2 A24.out).mono ?_); (case side1 => repeat (first | exact (Kd.Q_reads' HO_14.out).2.2 | (with_reducible refine Kd.C_alloc ?_ _) | (with_reducible refine Kd.C_drewN ?_ _) | (with_reducible refine Kd.C_drew ?_))); (case side2 => exact (Kd.Q_reads' HO_14.out).2.1); rintro e w37 ⟨v260, rfl, ho0, hb⟩; refine ⟨_, rfl, ?_⟩; have n0_ := Aside0.mk (Kd.Q_elder' (by (with_reducible repeat (first | apply Kd.Q_alloc | apply Kd.Q_drewN | apply Kd.Q_drew)); exact HO_13.out) (Kd.R_base ho0) hb); have n1_ := Aside0.mk (Kd.Q_elder' (by (with_reducible repeat (first | apply Kd.Q_alloc | apply Kd.Q_drewN | apply Kd.Q_drew)); exact HO_14.out) (Kd.R_base ho0) hb); have n2_ := Aside0.mk (Kd.R_elder' (by (with_reducible repeat (first | apply Kd.R_alloc | apply Kd.R_drewN | apply Kd.R_drew)); exact HO255.out) (Kd.R_base ho0) hb); have n3_ := Aside0.mk (Kd.R_elder' (by (with_reducible repeat (first | apply Kd.R_alloc | apply Kd.R_drewN | apply Kd.R_drew)); exact HO258.out) (Kd.R_base ho0) hb); have n4_ := Aside0.mk (Kd.R_lower (Kd.R_new' (Kd.R_new' (Kd.R_new' (Kd.R_new' ho0 (Kd.Q_lt (by (with_reducible repeat (first | apply Kd.Q_alloc | apply Kd.Q_drewN | apply Kd.Q_drew)); exact HO_13.out))) (Kd.Q_lt (by (with_reducible repeat (first | apply Kd.Q_alloc | apply Kd.Q_drewN | apply Kd.Q_drew)); exact HO_14.out))) (Kd.R_lt (by (with_reducible repeat (first | apply Kd.R_alloc | apply Kd.R_drewN | apply Kd.R_drew)); exact HO255.out))) (Kd.R_lt (by (with_reducible repeat (first | apply Kd.R_alloc | apply Kd.R_drewN | apply Kd.R_drew)); exact HO258.out))) (below_size (by repeat (first | (with_reducible first | exact HB.out | apply below_alloc | apply pw_below_drewN | apply below_drew1) | exact HB.out)))); have n5_ := Aside0.mk (below_step (by repeat (first | (with_reducible first | exact HB.out | apply below_alloc | apply pw_below_drewN | apply below_drew1) | exact HB.out)) hb); clear HO_13; clear HO_14; clear HO255; clear HO258; clear HB; have HO_13 := n0_; have HO_14 := n1_; have HO255 := n2_; have HO258 := n3_; have HO261 := n4_; have HB := n5_; clear n0_ n1_ n2_ n3_ n4_ n5_; (try clear hb); (try clear hb2); (try clear hk); (try clear hi); (try clear ho0); obtain ⟨Ao38, co38, eo38⟩ := Kd.R_slice HO261.out; subst eo38) | ((with_reducible refine gate_callee (f := 15) rfl ?_); refine goesL_ (some 54) rfl rfl Tryd.func15 (by kernel_rfl) rfl #[.slice Ao38 t259.length co38, .bool a3, .int .i64 (wrap64 (Int.tmod a5 20))] rfl (by (try simp only [List.map_toArray, List.map_cons, List.map_nil]); first | done | rfl | (simp only [List.length_drop, List.length_take]; rfl)) ?_; (with_reducible refine (impl_NumberMade.calls _ _ t259 a3 (wrap64 (Int.tmod a5 20)) t262 _ ?side1 ?side2 A25.out).mono ?_); (case side1 => repeat (first | exact (Kd.R_reads' HO261.out).2.2 | (with_reducible refine Kd.C_alloc ?_ _) | (with_reducible refine Kd.C_drewN ?_ _) | (with_reducible refine Kd.C_drew ?_))); (case side2 => exact (Kd.R_reads' HO261.out).2.1); rintro e w39 ⟨v263, rfl, ho0, hb⟩; refine ⟨_, rfl, ?_⟩; have n0_ := Aside0.mk (Kd.Q_elder' (by (with_reducible repeat (first | apply Kd.Q_alloc | apply Kd.Q_drewN | apply Kd.Q_drew)); exact HO_13.out) (Kd.R_base ho0) hb); have n1_ := Aside0.mk (Kd.Q_elder' (by (with_reducible repeat (first | apply Kd.Q_alloc | apply Kd.Q_drewN | apply Kd.Q_drew)); exact HO_14.out) (Kd.R_base ho0) hb); have n2_ := Aside0.mk (Kd.R_elder' (by (with_reducible repeat (first | apply Kd.R_alloc | apply Kd.R_drewN | apply Kd.R_drew)); exact HO255.out) (Kd.R_base ho0) hb); have n3_ := Aside0.mk (Kd.R_elder' (by (with_reducible repeat (first | apply Kd.R_alloc | apply Kd.R_drewN | apply Kd.R_drew)); exact HO258.out) (Kd.R_base ho0) hb); have n4_ := Aside0.mk (Kd.R_elder' (by (with_reducible repeat (first | apply Kd.R_alloc | apply Kd.R_drewN | apply Kd.R_drew)); exact HO261.out) (Kd.R_base ho0) hb); have n5_ := Aside0.mk (Kd.R_lower (Kd.R_new' (Kd.R_new' (Kd.R_new' (Kd.R_new' (Kd.R_new' ho0 (Kd.Q_lt (by (with_reducible repeat (first | apply Kd.Q_alloc | apply Kd.Q_drewN | apply Kd.Q_drew)); exact HO_13.out))) (Kd.Q_lt (by (with_reducible repeat (first | apply Kd.Q_alloc | apply Kd.Q_drewN | apply Kd.Q_drew)); exact HO_14.out))) (Kd.R_lt (by (with_reducible repeat (first | apply Kd.R_alloc | apply Kd.R_drewN | apply Kd.R_drew)); exact HO255.out))) (Kd.R_lt (by (with_reducible repeat (first | apply Kd.R_alloc | apply Kd.R_drewN | apply Kd.R_drew)); exact HO258.out))) (Kd.R_lt (by (with_reducible repeat (first | apply Kd.R_alloc | apply Kd.R_drewN | apply Kd.R_drew)); exact HO261.out))) (below_size (by repeat (first | (with_reducible first | exact HB.out | apply below_alloc | apply pw_below_drewN | apply below_drew1) | exact HB.out)))); have n6_ := Aside0.mk (below_step (by repeat (first | (with_reducible first | exact HB.out | apply below_alloc | apply pw_below_drewN | apply below_drew1) | exact HB.out)) hb); clear HO_13; clear HO_14; clear HO255; clear HO258; clear HO261; clear HB; have HO_13 := n0_; have HO_14 := n1_; have HO255 := n2_; have HO258 := n3_; have HO261 := n4_; have HO264 := n5_; have HB := n6_; clear n0_ n1_ n2_ n3_ n4_ n5_ n6_; (try clear hb); (try clear hb2); (try clear hk); (try clear hi); (try clear ho0); obtain ⟨Ao40, co40, eo40⟩ := Kd.R_slice HO258.out; subst eo40; obtain ⟨Ao41, co41, eo41⟩ := Kd.R_slice HO264.out; subst eo41) | ((with_reducible refine gate_callee (f := 18) rfl ?_); refine goesL_ (some 55) rfl rfl Tryd.func18 (by kernel_rfl) rfl #[.slice Ao40 t256.length co40, .slice Ao41 t262.length co41] rfl (by (try simp only [List.map_toArray, List.map_cons, List.map_nil]); first | done | rfl | (simp only [List.length_drop, List.length_take]; rfl)) ?_; (with_reducible refine (bytes_Compare.calls _ _ t256 _ _ t262 t265 _ ?side1 ?side2 ?side3 ?side4 A26.out).mono ?_); (case side1 => repeat (first | exact (Kd.R_reads' HO258.out).2.2 | (with_reducible refine Kd.C_alloc ?_ _) | (with_reducible refine Kd.C_drewN ?_ _) | (with_reducible refine Kd.C_drew ?_))); (case side2 => exact (Kd.R_reads' HO258.out).2.1); (case side3 => repeat (first | exact (Kd.R_reads' HO264.out).2.2 | (with_reducible refine Kd.C_alloc ?_ _) | (with_reducible refine Kd.C_drewN ?_ _) | (with_reducible refine Kd.C_drew ?_))); (case side4 => exact (Kd.R_reads' HO264.out).2.1); rintro e w' ⟨rfl, ⟨nd, rfl⟩⟩; refine ⟨_, rfl, ?_⟩) | ((with_reducible refine gate_callee (f := 19) rfl ?_); refine goesL_ (some 64) rfl rfl Tryd.func19 (by kernel_rfl) rfl #[.slice Ao32 t246.length co32, .bool a2, .int .i64 (wrap64 (Int.tmod a4 20)), .slice Ao36 t249.length co36, .bool a3, .int .i64 (wrap64 (Int.tmod a5 20))] rfl (by (try simp only [List.map_toArray, List.map_cons, List.map_nil]); first | done | rfl | (simp only [List.length_drop, List.length_take]; rfl)) ?_; (with_reducible refine (laws_numberLess.calls _ _ t246 a2 (wrap64 (Int.tmod a4 20)) _ _ t249 a3 (wrap64 (Int.tmod a5 20)) t266 _ ?side1 ?side2 ?side3 ?side4 A27.out).mono ?_); (case side1 => repeat (first | exact (Kd.Q_reads' HO_13.out).2.2 | (with_reducible refine Kd.C_alloc ?_ _) | (with_reducible refine Kd.C_drewN ?_ _) | (with_reducible refine Kd.C_drew ?_))); (case side2 => exact (Kd.Q_reads' HO_13.out).2.1); (case side3 => repeat (first | exact (Kd.Q_reads' HO_14.out).2.2 | (with_reducible refine Kd.C_alloc ?_ _) | (with_reducible refine Kd.C_drewN ?_ _) | (with_reducible refine Kd.C_drew ?_))); (case side4 => exact (Kd.Q_reads' HO_14.out).2.1); rintro e w' ⟨rfl, ⟨nd, rfl⟩⟩; refine ⟨_, rfl, ?_⟩) | (go_at_call 19; (with_reducible refine (laws_numberLess.calls _ _ t249 a3 (wrap64 (Int.tmod a5 20)) _ _ t246 a2 (wrap64 (Int.tmod a4 20)) t267 _ ?side1 ?side2 ?side3 ?side4 A29.out).mono ?_); (case side1 => repeat (first | exact (Kd.Q_reads' HO_14.out).2.2 | (with_reducible refine Kd.C_alloc ?_ _) | (with_reducible refine Kd.C_drewN ?_ _) | (with_reducible refine Kd.C_drew ?_))); (case side2 => exact (Kd.Q_reads' HO_14.out).2.1); (case side3 => repeat (first | exact (Kd.Q_reads' HO_13.out).2.2 | (with_reducible refine Kd.C_alloc ?_ _) | (with_reducible refine Kd.C_drewN ?_ _) | (with_reducible refine Kd.C_drew ?_))); (case side4 => exact (Kd.Q_reads' HO_13.out).2.1); rintro e w' ⟨rfl, ⟨nd, rfl⟩⟩) | (go_at_call 12; (with_reducible refine (laws_numberAwake.calls kj11  t268 _ A31.out ?side99).mono ?_); (case side99 => exact HT.out _ (by repeat (first | (with_reducible first | exact HB.out | apply below_alloc | apply pw_below_drewN | apply below_drew1) | exact HB.out))); rintro e w42 ⟨rfl, hb⟩; have n0_ := Aside0.mk (Kd.Q_below (by (with_reducible repeat (first | apply Kd.Q_alloc | apply Kd.Q_drewN | apply Kd.Q_drew)); exact HO_13.out) hb); have n1_ := Aside0.mk (Kd.Q_below (by (with_reducible repeat (first | apply Kd.Q_alloc | apply Kd.Q_drewN | apply Kd.Q_drew)); exact HO_14.out) hb); have n2_ := Aside0.mk (Kd.R_below (by (with_reducible repeat (first | apply Kd.R_alloc | apply Kd.R_drewN | apply Kd.R_drew)); exact HO255.out) hb); have n3_ := Aside0.mk (Kd.R_below (by (with_reducible repeat (first | apply Kd.R_alloc | apply Kd.R_drewN | apply Kd.R_drew)); exact HO258.out) hb); have n4_ := Aside0.mk (Kd.R_below (by (with_reducible repeat (first | apply Kd.R_alloc | apply Kd.R_drewN | apply Kd.R_drew)); exact HO261.out) hb); have n5_ := Aside0.mk (Kd.R_below (by (with_reducible repeat (first | apply Kd.R_alloc | apply Kd.R_drewN | apply Kd.R_drew)); exact HO264.out) hb); have n6_ := Aside0.mk (below_step (by repeat (first | (with_reducible first | exact HB.out | apply below_alloc | apply pw_below_drewN | apply below_drew1) | exact HB.out)) hb); clear HO_13; clear HO_14; clear HO255; clear HO258; clear HO261; clear HO264; clear HB; have HO_13 := n0_; have HO_14 := n1_; have HO255 := n2_; have HO258 := n3_; have HO261 := n4_; have HO264 := n5_; have HB := n6_; clear n0_ n1_ n2_ n3_ n4_ n5_ n6_; (try clear hb); (try clear hb2); (try clear hk); (try clear hi)))
                  go_ret
                  exact ⟨by first | rfl | (simp [errW_none, errW_some] <;> rfl) | (simp [*, errW_none, errW_some] <;> rfl), by repeat (first | (with_reducible first | exact HB.out | apply below_alloc | apply pw_below_drewN | apply below_drew1) | exact HB.out)⟩
                · rw [if_neg c30] at H
                  exact absurd H (by simp)
              · rw [if_neg c28] at H
                exact absurd H (by simp)
/-- THE ONE PURE STATEMENT of laws_FnNumberDecimals: yours. -/
def laws_FnNumberDecimals.Pure : Prop := ∀ (l0 : List Int) (l1 : List Int) (a2 : Bool) (a3 : Bool) (a4 : Int) (a5 : Int), l0.length ≤ maxLen → l0.length * 1 ≤ 140737488351232 → (∀ x ∈ l0, (Lit.int .u8 x).wf = true) → l1.length ≤ maxLen → l1.length * 1 ≤ 140737488351232 → (∀ x ∈ l1, (Lit.int .u8 x).wf = true) → (Lit.int .i8 a4).wf = true → (Lit.int .i8 a5).wf = true → ∃ k, laws_FnNumberDecimals.f k l0 l1 a2 a3 a4 a5 = some true
end Go.Proofs.YtepooaejlofkkaaDoor.ZN
