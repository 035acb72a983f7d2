-- Written by a program of this session (wip/xprint.py), which calls the kit's print.
import Derived.Test.YtepooaejlofkkaaDoorZN0
import Derived.Test.YtepooaejlofkkaaDoorNum
namespace Go.Proofs.YtepooaejlofkkaaDoor.ZN
open Go.RowKit Go.Proofs.YtepooaejlofkkaaDoor.X Go.Proofs.YtepooaejlofkkaaDoorW.PrintWords Go.Proofs.YtepooaejlofkkaaDoorW.PrintLast Go.Proofs.YtepooaejlofkkaaDoorW.PrintMore
attribute [local go_sem] max2_int min2_int max_two min_two max_three min_three max_four min_four   -- for this text's walks alone
set_option linter.unusedVariables false
set_option linter.unusedSimpArgs false

-- GIVEN: function 31 (converters_EncodeInt64)

/-! ### impl_NumberOfInt64: function 10 -/
def impl_NumberOfInt64.f (a0 : Int) : Option (List Int) := (converters_EncodeInt64.f a0).bind fun t101 => (some t101)
set_option maxHeartbeats 8000000 in
set_option maxRecDepth 100000 in
theorem impl_NumberOfInt64.calls (a0 : Int) (r : List Int) (w : World) (h : impl_NumberOfInt64.f a0 = some r) (htab : Tab w) :
    Calls Tryd.prog 10 #[.int .i64 a0] w fun e w' => ∃ v0_ : Value, e = .returned (v0_) ∧ Kd.R (Kd.int .u8) 5 w' w.heap.size (fun _ => True) v0_ r ∧ Below w.heap.size w w' := by
  have HT := Aside0.mk (tab_all htab)
  clear htab
  have HB := Aside0.mk (Below.refl w.heap.size w)
  have H : ((converters_EncodeInt64.f a0).bind fun t101 => (some t101)) = some r := h
  clear h
  replace H := Option.bind_eq_some_iff.mp H
  obtain ⟨t101, A20, H⟩ := H
  replace H : (some t101) = some r := H
  have A2 := Aside0.mk A20
  clear A20
  obtain rfl := Option.some.inj H
  go_enter Tryd.func10, Tryd.ntmps10
  go_wp2_with (first | ((with_reducible refine gate_callee (f := 31) rfl ?_); refine goesL_ (some 4) rfl rfl Tryd.func31 (by kernel_rfl) rfl #[.int .i64 a0] rfl (by (try simp only [List.map_toArray, List.map_cons, List.map_nil]); first | done | rfl | (simp only [List.length_drop, List.length_take]; rfl)) ?_; (with_reducible refine (converters_EncodeInt64.calls a0 t101 _ A2.out ?side99).mono ?_); (case side99 => exact HT.out _ (by repeat (first | (with_reducible first | exact HB.out | apply below_alloc | apply pw_below_drewN | apply below_drew1) | exact HB.out))); rintro e w3 ⟨v102, rfl, ho0, hb⟩; refine ⟨_, rfl, ?_⟩; have n0_ := Aside0.mk (Kd.R_lower ho0 (below_size (by repeat (first | (with_reducible first | exact HB.out | apply below_alloc | apply pw_below_drewN | apply below_drew1) | exact HB.out)))); have n1_ := Aside0.mk (below_step (by repeat (first | (with_reducible first | exact HB.out | apply below_alloc | apply pw_below_drewN | apply below_drew1) | exact HB.out)) hb); clear HB; have HO103 := n0_; have HB := n1_; clear n0_ n1_; (try clear hb); (try clear hb2); (try clear hk); (try clear hi); (try clear ho0)))
  go_ret
  exact ⟨_, by first | rfl | (simp [errW_none, errW_some] <;> rfl) | (simp [*, errW_none, errW_some] <;> rfl), by (with_reducible repeat (first | apply Kd.R_alloc | apply Kd.R_drewN | apply Kd.R_drew)); exact HO103.out, by repeat (first | (with_reducible first | exact HB.out | apply below_alloc | apply pw_below_drewN | apply below_drew1) | exact HB.out)⟩

/-! ### spec_NumberDecimal: function 11 -/
def spec_NumberDecimal.l0 : Nat → Int → Bool → ByteArray → Option (ByteArray)
  | 0, _, _, _ => none
  | k + 1, x0, x1, x5 => if x0 ≥ 10 then (if (Utf8.encode (wrap32 (IntKind.u64.wrap (48 + (Int.tmod x0 10))))).size + x5.size ≤ 9223372036854775807 then (spec_NumberDecimal.l0 k (IntKind.u64.wrap (Int.tdiv x0 10)) x1 ((Utf8.encode (wrap32 (IntKind.u64.wrap (48 + (Int.tmod x0 10))))) ++ x5)) else (none)) else (if (Utf8.encode (wrap32 (IntKind.u64.wrap (48 + x0)))).size + x5.size ≤ 9223372036854775807 then (if x1 = true then (if 1 + ((Utf8.encode (wrap32 (IntKind.u64.wrap (48 + x0)))) ++ x5).size ≤ 9223372036854775807 then (some ((⟨#[45]⟩ : ByteArray) ++ ((Utf8.encode (wrap32 (IntKind.u64.wrap (48 + x0)))) ++ x5))) else (none)) else (some ((Utf8.encode (wrap32 (IntKind.u64.wrap (48 + x0)))) ++ x5))) else (none))
def spec_NumberDecimal.f (k : Nat) (a0 : Int) (a1 : Bool) : Option (ByteArray) := spec_NumberDecimal.l0 k a0 a1 (⟨#[]⟩ : ByteArray)
theorem spec_NumberDecimal.mono_l : ∀ k, (∀ y0 y1 y2, LeO (spec_NumberDecimal.l0 k y0 y1 y2) (spec_NumberDecimal.l0 (k + 1) y0 y1 y2))
  | 0 => fun _ _ _ r h => by simp [spec_NumberDecimal.l0] at h
  | k + 1 => by
    have ih0 := spec_NumberDecimal.mono_l k
    · intro y0 y1 y2
      unfold spec_NumberDecimal.l0
      repeat' first
      | (with_reducible exact ih0 _ _ _)
      | (with_reducible exact LeO.refl _)
      | (with_reducible exact LeO.none _)
      | (with_reducible refine LeO.ite ?_ ?_)
      | (with_reducible refine LeO.bind ?_ (fun _ => ?_))
      | exact ih0 _ _ _
      | exact LeO.none _
      | refine LeO.ite ?_ ?_
      | refine LeO.bind ?_ (fun _ => ?_)
theorem spec_NumberDecimal.mono : ∀ a0 a1 k, LeO (spec_NumberDecimal.f k a0 a1) (spec_NumberDecimal.f (k + 1) a0 a1) := by
  intro a0 a1 k
  have ih0 := spec_NumberDecimal.mono_l k
  unfold spec_NumberDecimal.f
  repeat' first
      | (with_reducible exact ih0 _ _ _)
      | (with_reducible exact LeO.refl _)
      | (with_reducible exact LeO.none _)
      | (with_reducible refine LeO.ite ?_ ?_)
      | (with_reducible refine LeO.bind ?_ (fun _ => ?_))
      | exact ih0 _ _ _
      | exact LeO.none _
      | refine LeO.ite ?_ ?_
      | refine LeO.bind ?_ (fun _ => ?_)
set_option maxHeartbeats 8000000 in
set_option maxRecDepth 100000 in
theorem spec_NumberDecimal.calls (k : Nat) (a0 : Int) (a1 : Bool) (r : ByteArray) (w : World) (h : spec_NumberDecimal.f k a0 a1 = some r) :
    Calls Tryd.prog 11 #[.int .u64 a0, .bool a1] w fun e w' => e = .returned (.string r) ∧ Drawn0 w w' := by
  have H : (spec_NumberDecimal.l0 k a0 a1 (⟨#[]⟩ : ByteArray)) = some r := h
  clear h
  have H' := Aside0.mk H
  clear H
  go_enter Tryd.func11, Tryd.ntmps11
  go_wp2
  go_loopg [0, 5] k (fun kq v0 v5 w' => ∃ (x0_1 : Int) (x5_1 : ByteArray), v0 = .int .u64 x0_1 ∧ v5 = .string x5_1 ∧ Aside0 (spec_NumberDecimal.l0 kq x0_1 a1 x5_1 = some r) ∧ Aside0 (kq ≤ k) ∧ Drawn0 w w')
  case atStart => exact ⟨(a0), ((⟨#[]⟩ : ByteArray)), (by first | rfl | (simp; done) | (simp [*]; done)), (by first | rfl | (simp; done) | (simp [*]; done)), H', ⟨Nat.le_refl _⟩, by repeat (first | exact Drawn0.refl _ | apply Drawn0.step)⟩
  case round =>
    clear H'
    try clear c1
    try clear p2
    obtain ⟨x0_1, x5_1, rfl, rfl, HA, HK1, ⟨m1, rfl⟩⟩ := hrel
    cases gk with
    | zero => exact absurd HA.out (by simp [spec_NumberDecimal.l0])
    | succ k1 =>
      have H := HA.out
      clear HA
      simp only [spec_NumberDecimal.l0] at H
      by_cases c3 : x0_1 ≥ 10
      · rw [if_pos c3] at H
        have c3b0 : decide (10 ≤ x0_1) = true := decide_eq_true c3
        clear c3
        by_cases c4 : (Utf8.encode (wrap32 (IntKind.u64.wrap (48 + (Int.tmod x0_1 10))))).size + x5_1.size ≤ 9223372036854775807
        · rw [if_pos c4] at H
          have c4b0 := eq_true c4
          have c4b1 : decide ((Utf8.encode (wrap32 (IntKind.u64.wrap (48 + (Int.tmod x0_1 10))))).size + x5_1.size ≤ 9223372036854775807) = true := decide_eq_true c4
          try have c4b2 : (9223372036854775807 < (Utf8.encode (wrap32 (IntKind.u64.wrap (48 + (Int.tmod x0_1 10))))).size + x5_1.size) = False := eq_false (Nat.not_lt.2 c4)
          have H' := Aside0.mk H
          clear H
          go_wp2
          go_roundg k1
          case measure => have := HK1.out; omega
          case rel => exact ⟨(IntKind.u64.wrap (Int.tdiv x0_1 10)), ((Utf8.encode (wrap32 (IntKind.u64.wrap (48 + (Int.tmod x0_1 10))))) ++ x5_1), (by first | rfl | (simp; done) | (simp [*]; done)), (by first | rfl | (simp; done) | (simp [*]; done)), H', ⟨by have := HK1.out; omega⟩, by repeat (first | exact Drawn0.refl _ | apply Drawn0.step)⟩
        · rw [if_neg c4] at H
          exact absurd H (by simp)
      · rw [if_neg c3] at H
        have c3b0 : decide (10 ≤ x0_1) = false := decide_eq_false c3
        clear c3
        by_cases c5 : (Utf8.encode (wrap32 (IntKind.u64.wrap (48 + x0_1)))).size + x5_1.size ≤ 9223372036854775807
        · rw [if_pos c5] at H
          have c5b0 := eq_true c5
          have c5b1 : decide ((Utf8.encode (wrap32 (IntKind.u64.wrap (48 + x0_1)))).size + x5_1.size ≤ 9223372036854775807) = true := decide_eq_true c5
          try have c5b2 : (9223372036854775807 < (Utf8.encode (wrap32 (IntKind.u64.wrap (48 + x0_1)))).size + x5_1.size) = False := eq_false (Nat.not_lt.2 c5)
          by_cases c6 : a1 = true
          · subst c6
            have H1 : (if 1 + ((Utf8.encode (wrap32 (IntKind.u64.wrap (48 + x0_1)))) ++ x5_1).size ≤ 9223372036854775807 then (some ((⟨#[45]⟩ : ByteArray) ++ ((Utf8.encode (wrap32 (IntKind.u64.wrap (48 + x0_1)))) ++ x5_1))) else (none)) = some r := by rw [if_pos rfl] at H; exact H
            clear H
            have H := H1
            clear H1
            by_cases c7 : 1 + ((Utf8.encode (wrap32 (IntKind.u64.wrap (48 + x0_1)))) ++ x5_1).size ≤ 9223372036854775807
            · rw [if_pos c7] at H
              have c7b0 := eq_true c7
              have c7b1 : decide (1 + ((Utf8.encode (wrap32 (IntKind.u64.wrap (48 + x0_1)))) ++ x5_1).size ≤ 9223372036854775807) = true := decide_eq_true c7
              try have c7b2 : (9223372036854775807 < 1 + ((Utf8.encode (wrap32 (IntKind.u64.wrap (48 + x0_1)))) ++ x5_1).size) = False := eq_false (Nat.not_lt.2 c7)
              try (have c7b3 := c7b2; simp only [ByteArray.size_append, ba_size_mk, List.size_toArray, List.length_cons, List.length_nil, Nat.zero_add, Nat.reduceAdd] at c7b3)
              obtain rfl := Option.some.inj H
              go_wp2
              go_ret
              exact ⟨by first | rfl | (simp; done) | (simp [*]; done), by repeat (first | exact Drawn0.refl _ | apply Drawn0.step)⟩
            · rw [if_neg c7] at H
              exact absurd H (by simp)
          · replace c6 := Bool.eq_false_iff.mpr c6
            subst c6
            have H1 : (some ((Utf8.encode (wrap32 (IntKind.u64.wrap (48 + x0_1)))) ++ x5_1)) = some r := by rw [if_neg (show ¬ (false = true) by decide)] at H; exact H
            clear H
            have H := H1
            clear H1
            obtain rfl := Option.some.inj H
            go_wp2
            go_ret
            exact ⟨by first | rfl | (simp; done) | (simp [*]; done), by repeat (first | exact Drawn0.refl _ | apply Drawn0.step)⟩
        · rw [if_neg c5] at H
          exact absurd H (by simp)

/-! ### spec_NumberSame: function 14 -/
def spec_NumberSame.f (l0 : List Int) (l1 : List Int) : Option (Bool) := some ((strOfNums l0).toList == (strOfNums l1).toList)
set_option maxHeartbeats 8000000 in
set_option maxRecDepth 100000 in
theorem spec_NumberSame.calls (A0 : Option Addr) (c0 : Nat) (l0 : List Int) (A1 : Option Addr) (c1 : Nat) (l1 : List Int) (r : Bool) (w : World) (hr0 : Kd.C (Kd.int .u8) w A0 l0.length l0) (hc0 : l0.length ≤ c0) (hr1 : Kd.C (Kd.int .u8) w A1 l1.length l1) (hc1 : l1.length ≤ c1) (h : spec_NumberSame.f l0 l1 = some r) :
    Calls Tryd.prog 14 #[.slice A0 l0.length c0, .slice A1 l1.length c1] w fun e w' => e = .returned (.bool r) ∧ Drawn0 w w' := by
  have HR0 := Aside0.mk hr0
  have HC0 := Aside0.mk hc0
  clear hr0 hc0
  have HR1 := Aside0.mk hr1
  have HC1 := Aside0.mk hc1
  clear hr1 hc1
  have H : (some ((strOfNums l0).toList == (strOfNums l1).toList)) = some r := h
  clear h
  obtain rfl := Option.some.inj H
  have hcv3 := Kd.C_string (P := Tryd.prog) (A := A0) (c := c0) Tryd.underlying22 Tryd.underlying5 Tryd.underlying9 HR0.out
  have hcv4 := Kd.C_string (P := Tryd.prog) (A := A1) (c := c1) Tryd.underlying22 Tryd.underlying5 Tryd.underlying9 HR1.out
  go_enter Tryd.func14, Tryd.ntmps14
  go_wp2
  go_ret
  exact ⟨by first | rfl | (simp; done) | (simp [*]; done), by repeat (first | exact Drawn0.refl _ | apply Drawn0.step)⟩

-- GIVEN: function 27 (bytes_Clone)

-- GIVEN: function 43 (errors_New)

-- GIVEN: function 44 (converters_addDigitToMantissa)

end Go.Proofs.YtepooaejlofkkaaDoor.ZN
