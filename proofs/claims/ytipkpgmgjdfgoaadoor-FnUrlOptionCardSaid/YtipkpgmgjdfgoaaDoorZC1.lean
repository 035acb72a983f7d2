-- Written by a program of this session (wip/xprint.py), which calls the kit's print.
import Derived.Test.YtipkpgmgjdfgoaaDoorZC0
import Derived.Test.YtipkpgmgjdfgoaaDoorCf
import Derived.Test.YtipkpgmgjdfgoaaDoorTc
import Derived.Test.YtipkpgmgjdfgoaaDoorJh
namespace Go.Proofs.YtipkpgmgjdfgoaaDoor.ZC
open Go.RowKit Go.Proofs.YtipkpgmgjdfgoaaDoor.X Go.Proofs.YtipkpgmgjdfgoaaDoorW.PrintWords Go.Proofs.YtipkpgmgjdfgoaaDoorW.PrintLast Go.Proofs.YtipkpgmgjdfgoaaDoorW.PrintMore
attribute [local go_sem] max2_int min2_int max_two min_two max_three min_three max_four min_four   -- for this text's walks alone
set_option linter.unusedVariables false
set_option linter.unusedSimpArgs false

/-! ### laws_configShort: function 18 -/
def laws_configShort.l0 : Nat → List ByteArray → Int → Int → Option (Bool)
  | 0, _, _, _ => none
  | k + 1, x5, x6, x7 => if x7 < x6 then (if 0 ≤ x7 then (if x7 < (x5.length : Int) then (if ((rdOf ByteArray.empty x5 x7).size : Int) > 300 then (some false) else (laws_configShort.l0 k x5 x6 (wrap64 (x7 + 1)))) else (none)) else (none)) else (some true)
def laws_configShort.f (k : Nat) (l0 : List ByteArray) : Option (Bool) := laws_configShort.l0 k l0 (l0.length : Int) 0
theorem laws_configShort.mono_l : ∀ k, (∀ y0 y1 y2, LeO (laws_configShort.l0 k y0 y1 y2) (laws_configShort.l0 (k + 1) y0 y1 y2))
  | 0 => fun _ _ _ r h => by simp [laws_configShort.l0] at h
  | k + 1 => by
    have ih0 := laws_configShort.mono_l k
    · intro y0 y1 y2
      unfold laws_configShort.l0
      repeat' first
      | (with_reducible exact ih0 _ _ _)
      | (with_reducible exact LeO.refl _)
      | (with_reducible exact LeO.none _)
      | (with_reducible refine LeO.ite ?_ ?_)
      | (with_reducible refine LeO.bind ?_ (fun _ => ?_))
      | exact ih0 _ _ _
      | exact LeO.none _
      | refine LeO.ite ?_ ?_
      | refine LeO.bind ?_ (fun _ => ?_)
theorem laws_configShort.mono : ∀ a0 k, LeO (laws_configShort.f k a0) (laws_configShort.f (k + 1) a0) := by
  intro a0 k
  have ih0 := laws_configShort.mono_l k
  unfold laws_configShort.f
  repeat' first
      | (with_reducible exact ih0 _ _ _)
      | (with_reducible exact LeO.refl _)
      | (with_reducible exact LeO.none _)
      | (with_reducible refine LeO.ite ?_ ?_)
      | (with_reducible refine LeO.bind ?_ (fun _ => ?_))
      | exact ih0 _ _ _
      | exact LeO.none _
      | refine LeO.ite ?_ ?_
      | refine LeO.bind ?_ (fun _ => ?_)
set_option maxHeartbeats 8000000 in
set_option maxRecDepth 100000 in
theorem laws_configShort.calls (k : Nat) (A0 : Option Addr) (c0 : Nat) (l0 : List ByteArray) (r : Bool) (w : World) (hr0 : Kd.C Kd.string w A0 l0.length l0) (hc0 : l0.length ≤ c0) (h : laws_configShort.f k l0 = some r) :
    Calls Tryd.prog 18 #[.slice A0 l0.length c0] w fun e w' => e = .returned (.bool r) ∧ Drawn0 w w' := by
  have HR0 := Aside0.mk hr0
  have HC0 := Aside0.mk hc0
  clear hr0 hc0
  have H : (laws_configShort.l0 k l0 (l0.length : Int) 0) = some r := h
  clear h
  have H' := Aside0.mk H
  clear H
  go_enter Tryd.func18, Tryd.ntmps18
  go_wp2
  go_loopg [7] k (fun kq v7 w' => ∃ (x7_1 : Int), v7 = .int .i64 x7_1 ∧ Aside0 (laws_configShort.l0 kq l0 (l0.length : Int) x7_1 = some r) ∧ Aside0 (kq ≤ k) ∧ Drawn0 w w')
  case atStart => exact ⟨(0), (by first | rfl | (simp; done) | (simp [*]; done)), H', ⟨Nat.le_refl _⟩, by repeat (first | exact Drawn0.refl _ | apply Drawn0.step)⟩
  case round =>
    clear H'
    try clear c1
    obtain ⟨x7_1, rfl, HA, HK1, ⟨m1, rfl⟩⟩ := hrel
    cases gk with
    | zero => exact absurd HA.out (by simp [laws_configShort.l0])
    | succ k1 =>
      have H := HA.out
      clear HA
      simp only [laws_configShort.l0] at H
      by_cases c2 : x7_1 < (l0.length : Int)
      · rw [if_pos c2] at H
        have c2b0 : decide (x7_1 < (l0.length : Int)) = true := decide_eq_true c2
        clear c2
        by_cases c3 : 0 ≤ x7_1
        · rw [if_pos c3] at H
          have c3b0 : decide (0 ≤ x7_1) = true := decide_eq_true c3
          clear c3
          by_cases c4 : x7_1 < (l0.length : Int)
          · rw [if_pos c4] at H
            have c4b0 : decide (x7_1 < (l0.length : Int)) = true := decide_eq_true c4
            clear c4
            by_cases c5 : ((rdOf ByteArray.empty l0 x7_1).size : Int) > 300
            · rw [if_pos c5] at H
              have c5b0 : decide (300 < ((rdOf ByteArray.empty l0 x7_1).size : Int)) = true := decide_eq_true c5
              have c5b1 : decide (300 < (rdOf ByteArray.empty l0 x7_1).size) = true := decide_eq_true (by omega)
              clear c5
              obtain rfl := Option.some.inj H
              have p101 : 0 ≤ (x7_1 : Int) := of_decide_eq_true (by first | (with_reducible assumption) | assumption)
              have q101 : x7_1 < (l0.length : Int) := of_decide_eq_true (by first | (with_reducible assumption) | assumption)
              obtain ⟨ad101, e101, hx101_0⟩ := Kd.at_string HR0.out x7_1 p101 q101
              cases e101
              replace p101 := eq_true p101
              replace q101 := eq_true q101
              go_wp2
              go_ret
              exact ⟨by first | rfl | (simp; done) | (simp [*]; done), by repeat (first | exact Drawn0.refl _ | apply Drawn0.step)⟩
            · rw [if_neg c5] at H
              have c5b0 : decide (300 < ((rdOf ByteArray.empty l0 x7_1).size : Int)) = false := decide_eq_false c5
              have c5b1 : decide (300 < (rdOf ByteArray.empty l0 x7_1).size) = false := decide_eq_false (by omega)
              clear c5
              have H' := Aside0.mk H
              clear H
              have p101 : 0 ≤ (x7_1 : Int) := of_decide_eq_true (by first | (with_reducible assumption) | assumption)
              have q101 : x7_1 < (l0.length : Int) := of_decide_eq_true (by first | (with_reducible assumption) | assumption)
              obtain ⟨ad101, e101, hx101_0⟩ := Kd.at_string HR0.out x7_1 p101 q101
              cases e101
              replace p101 := eq_true p101
              replace q101 := eq_true q101
              go_wp2
              go_roundg k1
              case measure => have := HK1.out; omega
              case rel => exact ⟨(wrap64 (x7_1 + 1)), (by first | rfl | (simp; done) | (simp [*]; done)), H', ⟨by have := HK1.out; omega⟩, by repeat (first | exact Drawn0.refl _ | apply Drawn0.step)⟩
          · rw [if_neg c4] at H
            exact absurd H (by simp)
        · rw [if_neg c3] at H
          exact absurd H (by simp)
      · rw [if_neg c2] at H
        have c2b0 : decide (x7_1 < (l0.length : Int)) = false := decide_eq_false c2
        clear c2
        obtain rfl := Option.some.inj H
        go_wp2
        go_ret
        exact ⟨by first | rfl | (simp; done) | (simp [*]; done), by repeat (first | exact Drawn0.refl _ | apply Drawn0.step)⟩

-- GIVEN: function 19 (spec_ConfigPlain)

-- GIVEN: function 58 (strings_ToUpper)

/-! ### configurations_DBAPrivilegeFromString: function 45 -/
def configurations_DBAPrivilegeFromString.f (a0 : ByteArray) : Option (Int) := (strings_ToUpper.f a0).bind fun t102 => (if t102.toList = ([83, 89, 83, 68, 66, 65] : List UInt8) then (some 32) else (if t102.toList = ([83, 89, 83, 79, 80, 69, 82] : List UInt8) then (some 64) else (if t102.toList = ([83, 89, 83, 65, 83, 77] : List UInt8) then (some 4194304) else (if t102.toList = ([83, 89, 83, 66, 65, 67, 75, 85, 80] : List UInt8) then (some 16777216) else (if t102.toList = ([83, 89, 83, 68, 71] : List UInt8) then (some 33554432) else (if t102.toList = ([83, 89, 83, 75, 77] : List UInt8) then (some 67108864) else (if t102.toList = ([83, 89, 83, 82, 65, 67] : List UInt8) then (some 134217728) else (some 0))))))))
set_option maxHeartbeats 8000000 in
set_option maxRecDepth 100000 in
theorem configurations_DBAPrivilegeFromString.calls (a0 : ByteArray) (r : Int) (w : World) (h : configurations_DBAPrivilegeFromString.f a0 = some r) :
    Calls Tryd.prog 45 #[.string a0] w fun e w' => e = .returned (.int .i64 r) ∧ Below w.heap.size w w' := by
  have HB := Aside0.mk (Below.refl w.heap.size w)
  have H : ((strings_ToUpper.f a0).bind fun t102 => (if t102.toList = ([83, 89, 83, 68, 66, 65] : List UInt8) then (some 32) else (if t102.toList = ([83, 89, 83, 79, 80, 69, 82] : List UInt8) then (some 64) else (if t102.toList = ([83, 89, 83, 65, 83, 77] : List UInt8) then (some 4194304) else (if t102.toList = ([83, 89, 83, 66, 65, 67, 75, 85, 80] : List UInt8) then (some 16777216) else (if t102.toList = ([83, 89, 83, 68, 71] : List UInt8) then (some 33554432) else (if t102.toList = ([83, 89, 83, 75, 77] : List UInt8) then (some 67108864) else (if t102.toList = ([83, 89, 83, 82, 65, 67] : List UInt8) then (some 134217728) else (some 0))))))))) = some r := h
  clear h
  replace H := Option.bind_eq_some_iff.mp H
  obtain ⟨t102, A20, H⟩ := H
  replace H : (if t102.toList = ([83, 89, 83, 68, 66, 65] : List UInt8) then (some 32) else (if t102.toList = ([83, 89, 83, 79, 80, 69, 82] : List UInt8) then (some 64) else (if t102.toList = ([83, 89, 83, 65, 83, 77] : List UInt8) then (some 4194304) else (if t102.toList = ([83, 89, 83, 66, 65, 67, 75, 85, 80] : List UInt8) then (some 16777216) else (if t102.toList = ([83, 89, 83, 68, 71] : List UInt8) then (some 33554432) else (if t102.toList = ([83, 89, 83, 75, 77] : List UInt8) then (some 67108864) else (if t102.toList = ([83, 89, 83, 82, 65, 67] : List UInt8) then (some 134217728) else (some 0)))))))) = some r := H
  have A2 := Aside0.mk A20
  clear A20
  by_cases c3 : t102.toList = ([83, 89, 83, 68, 66, 65] : List UInt8)
  · rw [if_pos c3] at H
    have c3b0 : (t102.toList == ([83, 89, 83, 68, 66, 65] : List UInt8)) = true := beq_iff_eq.mpr c3
    have c3b1 : (t102.toList != ([83, 89, 83, 68, 66, 65] : List UInt8)) = false := bne_eq_false_iff_eq.mpr c3
    clear c3
    obtain rfl := Option.some.inj H
    go_enter Tryd.func45, Tryd.ntmps45
    go_wp2_with (first | ((with_reducible refine gate_callee (f := 58) rfl ?_); refine goesL_ (some 4) rfl rfl Tryd.func58 (by kernel_rfl) rfl #[.string a0] rfl (by (try simp only [List.map_toArray, List.map_cons, List.map_nil]); first | done | rfl | (simp only [List.length_drop, List.length_take]; rfl)) ?_; (with_reducible refine (strings_ToUpper.calls a0 t102 _ A2.out).mono ?_); rintro e w4 ⟨rfl, hb⟩; refine ⟨_, rfl, ?_⟩; have n0_ := Aside0.mk (below_step (by repeat (first | (with_reducible first | exact HB.out | apply below_alloc | apply pw_below_drewN | apply below_drew1) | exact HB.out)) hb); clear HB; have HB := n0_; clear n0_; (try clear hb); (try clear hb2); (try clear hk); (try clear hi)))
    go_ret
    exact ⟨by first | rfl | (simp [errW_none, errW_some] <;> rfl) | (simp [*, errW_none, errW_some] <;> rfl), by repeat (first | (with_reducible first | exact HB.out | apply below_alloc | apply pw_below_drewN | apply below_drew1) | exact HB.out)⟩
  · rw [if_neg c3] at H
    have c3b0 : (t102.toList == ([83, 89, 83, 68, 66, 65] : List UInt8)) = false := beq_eq_false_iff_ne.mpr c3
    have c3b1 : (t102.toList != ([83, 89, 83, 68, 66, 65] : List UInt8)) = true := bne_iff_ne.mpr c3
    by_cases c5 : t102.toList = ([83, 89, 83, 79, 80, 69, 82] : List UInt8)
    · rw [if_pos c5] at H
      have c5b0 : (t102.toList == ([83, 89, 83, 79, 80, 69, 82] : List UInt8)) = true := beq_iff_eq.mpr c5
      have c5b1 : (t102.toList != ([83, 89, 83, 79, 80, 69, 82] : List UInt8)) = false := bne_eq_false_iff_eq.mpr c5
      clear c5
      obtain rfl := Option.some.inj H
      go_enter Tryd.func45, Tryd.ntmps45
      go_wp2_with (first | ((with_reducible refine gate_callee (f := 58) rfl ?_); refine goesL_ (some 4) rfl rfl Tryd.func58 (by kernel_rfl) rfl #[.string a0] rfl (by (try simp only [List.map_toArray, List.map_cons, List.map_nil]); first | done | rfl | (simp only [List.length_drop, List.length_take]; rfl)) ?_; (with_reducible refine (strings_ToUpper.calls a0 t102 _ A2.out).mono ?_); rintro e w6 ⟨rfl, hb⟩; refine ⟨_, rfl, ?_⟩; have n0_ := Aside0.mk (below_step (by repeat (first | (with_reducible first | exact HB.out | apply below_alloc | apply pw_below_drewN | apply below_drew1) | exact HB.out)) hb); clear HB; have HB := n0_; clear n0_; (try clear hb); (try clear hb2); (try clear hk); (try clear hi)))
      go_ret
      exact ⟨by first | rfl | (simp [errW_none, errW_some] <;> rfl) | (simp [*, errW_none, errW_some] <;> rfl), by repeat (first | (with_reducible first | exact HB.out | apply below_alloc | apply pw_below_drewN | apply below_drew1) | exact HB.out)⟩
    · rw [if_neg c5] at H
      have c5b0 : (t102.toList == ([83, 89, 83, 79, 80, 69, 82] : List UInt8)) = false := beq_eq_false_iff_ne.mpr c5
      have c5b1 : (t102.toList != ([83, 89, 83, 79, 80, 69, 82] : List UInt8)) = true := bne_iff_ne.mpr c5
      by_cases c7 : t102.toList = ([83, 89, 83, 65, 83, 77] : List UInt8)
      · rw [if_pos c7] at H
        have c7b0 : (t102.toList == ([83, 89, 83, 65, 83, 77] : List UInt8)) = true := beq_iff_eq.mpr c7
        have c7b1 : (t102.toList != ([83, 89, 83, 65, 83, 77] : List UInt8)) = false := bne_eq_false_iff_eq.mpr c7
        clear c7
        obtain rfl := Option.some.inj H
        go_enter Tryd.func45, Tryd.ntmps45
        go_wp2_with (first | ((with_reducible refine gate_callee (f := 58) rfl ?_); refine goesL_ (some 4) rfl rfl Tryd.func58 (by kernel_rfl) rfl #[.string a0] rfl (by (try simp only [List.map_toArray, List.map_cons, List.map_nil]); first | done | rfl | (simp only [List.length_drop, List.length_take]; rfl)) ?_; (with_reducible refine (strings_ToUpper.calls a0 t102 _ A2.out).mono ?_); rintro e w8 ⟨rfl, hb⟩; refine ⟨_, rfl, ?_⟩; have n0_ := Aside0.mk (below_step (by repeat (first | (with_reducible first | exact HB.out | apply below_alloc | apply pw_below_drewN | apply below_drew1) | exact HB.out)) hb); clear HB; have HB := n0_; clear n0_; (try clear hb); (try clear hb2); (try clear hk); (try clear hi)))
        go_ret
        exact ⟨by first | rfl | (simp [errW_none, errW_some] <;> rfl) | (simp [*, errW_none, errW_some] <;> rfl), by repeat (first | (with_reducible first | exact HB.out | apply below_alloc | apply pw_below_drewN | apply below_drew1) | exact HB.out)⟩
      · rw [if_neg c7] at H
        have c7b0 : (t102.toList == ([83, 89, 83, 65, 83, 77] : List UInt8)) = false := beq_eq_false_iff_ne.mpr c7
        have c7b1 : (t102.toList != ([83, 89, 83, 65, 83, 77] : List UInt8)) = true := bne_iff_ne.mpr c7
        by_cases c9 : t102.toList = ([83, 89, 83, 66, 65, 67, 75, 85, 80] : List UInt8)
        · rw [if_pos c9] at H
          have c9b0 : (t102.toList == ([83, 89, 83, 66, 65, 67, 75, 85, 80] : List UInt8)) = true := beq_iff_eq.mpr c9
          have c9b1 : (t102.toList != ([83, 89, 83, 66, 65, 67, 75, 85, 80] : List UInt8)) = false := bne_eq_false_iff_eq.mpr c9
          clear c9
          obtain rfl := Option.some.inj H
          go_enter Tryd.func45, Tryd.ntmps45
          go_wp2_with (first | ((with_reducible refine gate_callee (f := 58) rfl ?_); refine goesL_ (some 4) rfl rfl Tryd.func58 (by kernel_rfl) rfl #[.string a0] rfl (by (try simp only [List.map_toArray, List.map_cons, List.map_nil]); first | done | rfl | (simp only [List.length_drop, List.length_take]; rfl)) ?_; (with_reducible refine (strings_ToUpper.calls a0 t102 _ A2.out).mono ?_); rintro e w10 ⟨rfl, hb⟩; refine ⟨_, rfl, ?_⟩; have n0_ := Aside0.mk (below_step (by repeat (first | (with_reducible first | exact HB.out | apply below_alloc | apply pw_below_drewN | apply below_drew1) | exact HB.out)) hb); clear HB; have HB := n0_; clear n0_; (try clear hb); (try clear hb2); (try clear hk); (try clear hi)))
          go_ret
          exact ⟨by first | rfl | (simp [errW_none, errW_some] <;> rfl) | (simp [*, errW_none, errW_some] <;> rfl), by repeat (first | (with_reducible first | exact HB.out | apply below_alloc | apply pw_below_drewN | apply below_drew1) | exact HB.out)⟩
        · rw [if_neg c9] at H
          have c9b0 : (t102.toList == ([83, 89, 83, 66, 65, 67, 75, 85, 80] : List UInt8)) = false := beq_eq_false_iff_ne.mpr c9
          have c9b1 : (t102.toList != ([83, 89, 83, 66, 65, 67, 75, 85, 80] : List UInt8)) = true := bne_iff_ne.mpr c9
          by_cases c11 : t102.toList = ([83, 89, 83, 68, 71] : List UInt8)
          · rw [if_pos c11] at H
            have c11b0 : (t102.toList == ([83, 89, 83, 68, 71] : List UInt8)) = true := beq_iff_eq.mpr c11
            have c11b1 : (t102.toList != ([83, 89, 83, 68, 71] : List UInt8)) = false := bne_eq_false_iff_eq.mpr c11
            clear c11
            obtain rfl := Option.some.inj H
            go_enter Tryd.func45, Tryd.ntmps45
            go_wp2_with (first | ((with_reducible refine gate_callee (f := 58) rfl ?_); refine goesL_ (some 4) rfl rfl Tryd.func58 (by kernel_rfl) rfl #[.string a0] rfl (by (try simp only [List.map_toArray, List.map_cons, List.map_nil]); first | done | rfl | (simp only [List.length_drop, List.length_take]; rfl)) ?_; (with_reducible refine (strings_ToUpper.calls a0 t102 _ A2.out).mono ?_); rintro e w12 ⟨rfl, hb⟩; refine ⟨_, rfl, ?_⟩; have n0_ := Aside0.mk (below_step (by repeat (first | (with_reducible first | exact HB.out | apply below_alloc | apply pw_below_drewN | apply below_drew1) | exact HB.out)) hb); clear HB; have HB := n0_; clear n0_; (try clear hb); (try clear hb2); (try clear hk); (try clear hi)))
            go_ret
            exact ⟨by first | rfl | (simp [errW_none, errW_some] <;> rfl) | (simp [*, errW_none, errW_some] <;> rfl), by repeat (first | (with_reducible first | exact HB.out | apply below_alloc | apply pw_below_drewN | apply below_drew1) | exact HB.out)⟩
          · rw [if_neg c11] at H
            have c11b0 : (t102.toList == ([83, 89, 83, 68, 71] : List UInt8)) = false := beq_eq_false_iff_ne.mpr c11
            have c11b1 : (t102.toList != ([83, 89, 83, 68, 71] : List UInt8)) = true := bne_iff_ne.mpr c11
            by_cases c13 : t102.toList = ([83, 89, 83, 75, 77] : List UInt8)
            · rw [if_pos c13] at H
              have c13b0 : (t102.toList == ([83, 89, 83, 75, 77] : List UInt8)) = true := beq_iff_eq.mpr c13
              have c13b1 : (t102.toList != ([83, 89, 83, 75, 77] : List UInt8)) = false := bne_eq_false_iff_eq.mpr c13
              clear c13
              obtain rfl := Option.some.inj H
              go_enter Tryd.func45, Tryd.ntmps45
              go_wp2_with (first | ((with_reducible refine gate_callee (f := 58) rfl ?_); refine goesL_ (some 4) rfl rfl Tryd.func58 (by kernel_rfl) rfl #[.string a0] rfl (by (try simp only [List.map_toArray, List.map_cons, List.map_nil]); first | done | rfl | (simp only [List.length_drop, List.length_take]; rfl)) ?_; (with_reducible refine (strings_ToUpper.calls a0 t102 _ A2.out).mono ?_); rintro e w14 ⟨rfl, hb⟩; refine ⟨_, rfl, ?_⟩; have n0_ := Aside0.mk (below_step (by repeat (first | (with_reducible first | exact HB.out | apply below_alloc | apply pw_below_drewN | apply below_drew1) | exact HB.out)) hb); clear HB; have HB := n0_; clear n0_; (try clear hb); (try clear hb2); (try clear hk); (try clear hi)))
              go_ret
              exact ⟨by first | rfl | (simp [errW_none, errW_some] <;> rfl) | (simp [*, errW_none, errW_some] <;> rfl), by repeat (first | (with_reducible first | exact HB.out | apply below_alloc | apply pw_below_drewN | apply below_drew1) | exact HB.out)⟩
            · rw [if_neg c13] at H
              have c13b0 : (t102.toList == ([83, 89, 83, 75, 77] : List UInt8)) = false := beq_eq_false_iff_ne.mpr c13
              have c13b1 : (t102.toList != ([83, 89, 83, 75, 77] : List UInt8)) = true := bne_iff_ne.mpr c13
              by_cases c15 : t102.toList = ([83, 89, 83, 82, 65, 67] : List UInt8)
              · rw [if_pos c15] at H
                have c15b0 : (t102.toList == ([83, 89, 83, 82, 65, 67] : List UInt8)) = true := beq_iff_eq.mpr c15
                have c15b1 : (t102.toList != ([83, 89, 83, 82, 65, 67] : List UInt8)) = false := bne_eq_false_iff_eq.mpr c15
                clear c15
                obtain rfl := Option.some.inj H
                go_enter Tryd.func45, Tryd.ntmps45
                go_wp2_with (first | ((with_reducible refine gate_callee (f := 58) rfl ?_); refine goesL_ (some 4) rfl rfl Tryd.func58 (by kernel_rfl) rfl #[.string a0] rfl (by (try simp only [List.map_toArray, List.map_cons, List.map_nil]); first | done | rfl | (simp only [List.length_drop, List.length_take]; rfl)) ?_; (with_reducible refine (strings_ToUpper.calls a0 t102 _ A2.out).mono ?_); rintro e w16 ⟨rfl, hb⟩; refine ⟨_, rfl, ?_⟩; have n0_ := Aside0.mk (below_step (by repeat (first | (with_reducible first | exact HB.out | apply below_alloc | apply pw_below_drewN | apply below_drew1) | exact HB.out)) hb); clear HB; have HB := n0_; clear n0_; (try clear hb); (try clear hb2); (try clear hk); (try clear hi)))
                go_ret
                exact ⟨by first | rfl | (simp [errW_none, errW_some] <;> rfl) | (simp [*, errW_none, errW_some] <;> rfl), by repeat (first | (with_reducible first | exact HB.out | apply below_alloc | apply pw_below_drewN | apply below_drew1) | exact HB.out)⟩
              · rw [if_neg c15] at H
                have c15b0 : (t102.toList == ([83, 89, 83, 82, 65, 67] : List UInt8)) = false := beq_eq_false_iff_ne.mpr c15
                have c15b1 : (t102.toList != ([83, 89, 83, 82, 65, 67] : List UInt8)) = true := bne_iff_ne.mpr c15
                obtain rfl := Option.some.inj H
                go_enter Tryd.func45, Tryd.ntmps45
                go_wp2_with (first | ((with_reducible refine gate_callee (f := 58) rfl ?_); refine goesL_ (some 4) rfl rfl Tryd.func58 (by kernel_rfl) rfl #[.string a0] rfl (by (try simp only [List.map_toArray, List.map_cons, List.map_nil]); first | done | rfl | (simp only [List.length_drop, List.length_take]; rfl)) ?_; (with_reducible refine (strings_ToUpper.calls a0 t102 _ A2.out).mono ?_); rintro e w17 ⟨rfl, hb⟩; refine ⟨_, rfl, ?_⟩; have n0_ := Aside0.mk (below_step (by repeat (first | (with_reducible first | exact HB.out | apply below_alloc | apply pw_below_drewN | apply below_drew1) | exact HB.out)) hb); clear HB; have HB := n0_; clear n0_; (try clear hb); (try clear hb2); (try clear hk); (try clear hi)))
                go_ret
                exact ⟨by first | rfl | (simp [errW_none, errW_some] <;> rfl) | (simp [*, errW_none, errW_some] <;> rfl), by repeat (first | (with_reducible first | exact HB.out | apply below_alloc | apply pw_below_drewN | apply below_drew1) | exact HB.out)⟩

/-! ### impl_Privilege: function 21 -/
def impl_Privilege.f (a0 : ByteArray) : Option (Int) := (configurations_DBAPrivilegeFromString.f a0).bind fun t103 => (some t103)
set_option maxHeartbeats 8000000 in
set_option maxRecDepth 100000 in
theorem impl_Privilege.calls (a0 : ByteArray) (r : Int) (w : World) (h : impl_Privilege.f a0 = some r) :
    Calls Tryd.prog 21 #[.string a0] w fun e w' => e = .returned (.int .i64 r) ∧ Below w.heap.size w w' := by
  have HB := Aside0.mk (Below.refl w.heap.size w)
  have H : ((configurations_DBAPrivilegeFromString.f a0).bind fun t103 => (some t103)) = some r := h
  clear h
  replace H := Option.bind_eq_some_iff.mp H
  obtain ⟨t103, A20, H⟩ := H
  replace H : (some t103) = some r := H
  have A2 := Aside0.mk A20
  clear A20
  obtain rfl := Option.some.inj H
  go_enter Tryd.func21, Tryd.ntmps21
  go_wp2_with (first | ((with_reducible refine gate_callee (f := 45) rfl ?_); refine goesL_ (some 4) rfl rfl Tryd.func45 (by kernel_rfl) rfl #[.string a0] rfl (by (try simp only [List.map_toArray, List.map_cons, List.map_nil]); first | done | rfl | (simp only [List.length_drop, List.length_take]; rfl)) ?_; (with_reducible refine (configurations_DBAPrivilegeFromString.calls a0 t103 _ A2.out).mono ?_); rintro e w3 ⟨rfl, hb⟩; refine ⟨_, rfl, ?_⟩; have n0_ := Aside0.mk (below_step (by repeat (first | (with_reducible first | exact HB.out | apply below_alloc | apply pw_below_drewN | apply below_drew1) | exact HB.out)) hb); clear HB; have HB := n0_; clear n0_; (try clear hb); (try clear hb2); (try clear hk); (try clear hi)))
  go_ret
  exact ⟨by first | rfl | (simp [errW_none, errW_some] <;> rfl) | (simp [*, errW_none, errW_some] <;> rfl), by repeat (first | (with_reducible first | exact HB.out | apply below_alloc | apply pw_below_drewN | apply below_drew1) | exact HB.out)⟩

/-! ### impl_serverOf: function 41 -/
def impl_serverOf.f (a0_0 : ByteArray) (a0_1 : ByteArray) (a0_2 : Int) : Option (ByteArray × ByteArray × Int) := some (a0_0, a0_1, a0_2)
set_option maxHeartbeats 8000000 in
set_option maxRecDepth 100000 in
theorem impl_serverOf.calls (a0_0 : ByteArray) (a0_1 : ByteArray) (a0_2 : Int) (r1 : ByteArray) (r2 : ByteArray) (r3 : Int) (w : World) (h : impl_serverOf.f a0_0 a0_1 a0_2 = some (r1, r2, r3)) :
    Calls Tryd.prog 41 #[.agg #[.string a0_0, .string a0_1, .int .i64 a0_2]] w fun e w' => e = .returned (.agg #[.string r1, .string r2, .int .i64 r3]) ∧ Below w.heap.size w w' := by
  have hu30 := Tryd.underlying30
  have hu68 := Tryd.underlying68
  have HB := Aside0.mk (Below.refl w.heap.size w)
  have H : (some (a0_0, a0_1, a0_2)) = some (r1, r2, r3) := h
  clear h
  simp only [Option.some.injEq, Prod.mk.injEq] at H
  obtain ⟨rfl, rfl, rfl⟩ := H
  go_enter Tryd.func41, Tryd.ntmps41
  go_wp2_with (first | ((with_reducible refine gate_dst (N := 1) rfl ?_); refine box_event ?hg (N := 1) ?hd (cs := #[.string a0_0, .string a0_1, .int .i64 a0_2]) (t := 30) ?hr ?_; (case hd => rfl); (case hg => rfl); (case hr => first | (go_simp; done) | (go_simp; rfl)); intro gb104 hg w2 hbox hb; have n0_ := Aside0.mk (below_step (by repeat (first | (with_reducible first | exact HB.out | apply below_alloc | apply pw_below_drewN | apply below_drew1) | exact HB.out)) hb); have n1_ := Aside0.mk (hbox); have n2_ := Aside0.mk ((by rw [hg]; exact (below_size (by repeat (first | (with_reducible first | exact HB.out | apply below_alloc | apply pw_below_drewN | apply below_drew1) | exact HB.out))) : w.heap.size ≤ gb104)); have n3_ := Aside0.mk ((by rw [hg]; exact (below_size (by repeat (first | (with_reducible first | exact HB.out | apply below_alloc | apply pw_below_drewN | apply below_drew1) | exact HB.out))) : w.heap.size ≤ gb104)); clear HB; have HB := n0_; have BK104 := n1_; have GW104 := n2_; have GE104 := n3_; clear n0_ n1_ n2_ n3_; clear hb hbox hg) | ((with_reducible refine gate_dst (N := 2) rfl ?_); refine box_event ?hg (N := 2) ?hd (cs := #[.string (⟨#[]⟩ : ByteArray), .string (⟨#[]⟩ : ByteArray), .int .i64 0]) (t := 68) ?hr ?_; (case hd => rfl); (case hg => rfl); (case hr => first | (go_simp; done) | (go_simp; rfl)); intro gb105 hg w3 hbox hb; have n0_ := Aside0.mk (blk_below (g := gb104) (o := .cells #[.string a0_0, .string a0_1, .int .i64 a0_2] 30 (0, 0)) (by (with_reducible repeat (first | refine blk_drewN ?_ _ | refine blk_drew ?_ | refine blk_alloc ?_ _)); exact BK104.out) hb); have n1_ := Aside0.mk (below_step (by repeat (first | (with_reducible first | exact HB.out | apply below_alloc | apply pw_below_drewN | apply below_drew1 | refine below_set ?_ GE104.out) | exact HB.out)) hb); have n2_ := Aside0.mk (hbox); have n3_ := Aside0.mk ((by rw [hg]; exact (below_size (by repeat (first | (with_reducible first | exact HB.out | apply below_alloc | apply pw_below_drewN | apply below_drew1 | refine below_set ?_ GE104.out) | exact HB.out))) : w.heap.size ≤ gb105)); have n4_ := Aside0.mk ((by rw [hg]; exact (below_size (by repeat (first | (with_reducible first | exact HB.out | apply below_alloc | apply pw_below_drewN | apply below_drew1 | refine below_set ?_ GE104.out) | exact HB.out))) : w.heap.size ≤ gb105)); have n5_ := Aside0.mk ((by rw [hg]; exact Nat.ne_of_lt (blk_lt (g := gb104) (o := .cells #[.string a0_0, .string a0_1, .int .i64 a0_2] 30 (0, 0)) (by (with_reducible repeat (first | refine blk_drewN ?_ _ | refine blk_drew ?_ | refine blk_alloc ?_ _)); exact BK104.out)) : gb104 ≠ gb105)); have n6_ := Aside0.mk ((by rw [hg]; exact Nat.ne_of_gt (blk_lt (g := gb104) (o := .cells #[.string a0_0, .string a0_1, .int .i64 a0_2] 30 (0, 0)) (by (with_reducible repeat (first | refine blk_drewN ?_ _ | refine blk_drew ?_ | refine blk_alloc ?_ _)); exact BK104.out)) : gb105 ≠ gb104)); clear BK104; clear HB; have BK104 := n0_; have HB := n1_; have BK105 := n2_; have GW105 := n3_; have GE105 := n4_; have NB104_105 := n5_; have NB105_104 := n6_; clear n0_ n1_ n2_ n3_ n4_ n5_ n6_; clear hb hbox hg; have hnb4 := NB104_105.out; have hnc4 := NB105_104.out; have hcz5_0 : w3.cell? ⟨gb104, 0, none⟩ = some (.string a0_0) := (blk_cell BK104.out 0).trans rfl; have hcz5_1 : w3.cell? ⟨gb104, 1, none⟩ = some (.string a0_1) := (blk_cell BK104.out 1).trans rfl; have hcz5_2 : w3.cell? ⟨gb104, 2, none⟩ = some (.int .i64 a0_2) := (blk_cell BK104.out 2).trans rfl; have hfz5_0 := blk_frozen BK104.out 0; have hfz5_1 := blk_frozen BK104.out 1; have hfz5_2 := blk_frozen BK104.out 2; have hcz6_0 : w3.cell? ⟨gb105, 0, none⟩ = some (.string (⟨#[]⟩ : ByteArray)) := (blk_cell BK105.out 0).trans rfl; have hcz6_1 : w3.cell? ⟨gb105, 1, none⟩ = some (.string (⟨#[]⟩ : ByteArray)) := (blk_cell BK105.out 1).trans rfl; have hcz6_2 : w3.cell? ⟨gb105, 2, none⟩ = some (.int .i64 0) := (blk_cell BK105.out 2).trans rfl; have hfz6_0 := blk_frozen BK105.out 0; have hfz6_1 := blk_frozen BK105.out 1; have hfz6_2 := blk_frozen BK105.out 2))
  refine bodyPost_ret (results_cell_row rfl _ _ gb105 68 #[.string a0_0, .string a0_1, .int .i64 a0_2] (0, 0) _ rfl (by (with_reducible repeat (first | refine blk_drewN ?_ _ | refine blk_drew ?_ | refine blk_alloc ?_ _)); refine blk_put (cs := #[.string a0_0, .string a0_1, .int .i64 0]) ?_ 2 _ rfl; (with_reducible repeat (first | refine blk_drewN ?_ _ | refine blk_drew ?_ | refine blk_alloc ?_ _)); refine blk_put (cs := #[.string a0_0, .string (⟨#[]⟩ : ByteArray), .int .i64 0]) ?_ 1 _ rfl; (with_reducible repeat (first | refine blk_drewN ?_ _ | refine blk_drew ?_ | refine blk_alloc ?_ _)); refine blk_put (cs := #[.string (⟨#[]⟩ : ByteArray), .string (⟨#[]⟩ : ByteArray), .int .i64 0]) ?_ 0 _ rfl; (with_reducible repeat (first | refine blk_drewN ?_ _ | refine blk_drew ?_ | refine blk_alloc ?_ _)); exact BK105.out) Tryd.underlying68 rfl (by kernel_rfl)) rfl ?_
  exact ⟨by first | rfl | (simp [errW_none, errW_some] <;> rfl) | (simp [*, errW_none, errW_some] <;> rfl), by repeat (first | (with_reducible first | exact HB.out | apply below_alloc | apply pw_below_drewN | apply below_drew1 | refine below_set ?_ GE104.out | refine below_set ?_ GE105.out) | exact HB.out)⟩

-- GIVEN: function 49 (strconv_Itoa)

-- GIVEN: function 59 (net_JoinHostPort)

-- NOT PRINTED: function 47 (configurations_ServerAddr_NetworkAddr)

-- NOT PRINTED: function 25 (impl_Network)

-- NOT PRINTED: function 20 (laws_configAwake)

/-! ### spec_PrivilegeNames: function 23 -/
def spec_PrivilegeNames.f  : Option (List ByteArray) := some (([(⟨#[83, 89, 83, 68, 66, 65]⟩ : ByteArray), (⟨#[83, 89, 83, 79, 80, 69, 82]⟩ : ByteArray), (⟨#[83, 89, 83, 65, 83, 77]⟩ : ByteArray), (⟨#[83, 89, 83, 66, 65, 67, 75, 85, 80]⟩ : ByteArray), (⟨#[83, 89, 83, 68, 71]⟩ : ByteArray), (⟨#[83, 89, 83, 75, 77]⟩ : ByteArray), (⟨#[83, 89, 83, 82, 65, 67]⟩ : ByteArray)] : List ByteArray))
set_option maxHeartbeats 8000000 in
set_option maxRecDepth 100000 in
theorem spec_PrivilegeNames.calls  (r : List ByteArray) (w : World) (h : spec_PrivilegeNames.f  = some r) :
    Calls Tryd.prog 23 #[] w fun e w' => ∃ v0_ : Value, e = .returned (v0_) ∧ Kd.R Kd.string 9 w' w.heap.size (fun _ => True) v0_ r ∧ Below w.heap.size w w' := by
  have HB := Aside0.mk (Below.refl w.heap.size w)
  have H : (some (([(⟨#[83, 89, 83, 68, 66, 65]⟩ : ByteArray), (⟨#[83, 89, 83, 79, 80, 69, 82]⟩ : ByteArray), (⟨#[83, 89, 83, 65, 83, 77]⟩ : ByteArray), (⟨#[83, 89, 83, 66, 65, 67, 75, 85, 80]⟩ : ByteArray), (⟨#[83, 89, 83, 68, 71]⟩ : ByteArray), (⟨#[83, 89, 83, 75, 77]⟩ : ByteArray), (⟨#[83, 89, 83, 82, 65, 67]⟩ : ByteArray)] : List ByteArray))) = some r := h
  clear h
  obtain ⟨y113, hy113⟩ : ∃ y_ : List ByteArray, y_ = (([(⟨#[83, 89, 83, 68, 66, 65]⟩ : ByteArray), (⟨#[83, 89, 83, 79, 80, 69, 82]⟩ : ByteArray), (⟨#[83, 89, 83, 65, 83, 77]⟩ : ByteArray), (⟨#[83, 89, 83, 66, 65, 67, 75, 85, 80]⟩ : ByteArray), (⟨#[83, 89, 83, 68, 71]⟩ : ByteArray), (⟨#[83, 89, 83, 75, 77]⟩ : ByteArray), (⟨#[83, 89, 83, 82, 65, 67]⟩ : ByteArray)] : List ByteArray)) := ⟨_, rfl⟩
  replace H : (some y113) = some r := by first | (rw [hy113]; with_reducible exact H) | (have H2_ := (Option.bind_some _ _).symm.trans H; rw [hy113]; with_reducible exact H2_) | (have H2_ := (Option.bind_some _ _).symm.trans H; with_reducible exact H2_) | with_reducible exact H | (rw [hy113]; exact H) | exact H
  have Ny113 := Aside0.mk hy113
  clear hy113
  obtain rfl := Option.some.inj H
  go_enter Tryd.func23, Tryd.ntmps23
  go_wp2_with (first | ((with_reducible refine gate_dst (N := 1) rfl ?_); refine Kd.R_lit Kd.string _ 9 ?hg (N := 1) ?hd (xs := ([(⟨#[83, 89, 83, 68, 66, 65]⟩ : ByteArray), (⟨#[83, 89, 83, 79, 80, 69, 82]⟩ : ByteArray), (⟨#[83, 89, 83, 65, 83, 77]⟩ : ByteArray), (⟨#[83, 89, 83, 66, 65, 67, 75, 85, 80]⟩ : ByteArray), (⟨#[83, 89, 83, 68, 71]⟩ : ByteArray), (⟨#[83, 89, 83, 75, 77]⟩ : ByteArray), (⟨#[83, 89, 83, 82, 65, 67]⟩ : ByteArray)] : List ByteArray)) (inner := [.string (⟨#[83, 89, 83, 68, 66, 65]⟩ : ByteArray), .string (⟨#[83, 89, 83, 79, 80, 69, 82]⟩ : ByteArray), .string (⟨#[83, 89, 83, 65, 83, 77]⟩ : ByteArray), .string (⟨#[83, 89, 83, 66, 65, 67, 75, 85, 80]⟩ : ByteArray), .string (⟨#[83, 89, 83, 68, 71]⟩ : ByteArray), .string (⟨#[83, 89, 83, 75, 77]⟩ : ByteArray), .string (⟨#[83, 89, 83, 82, 65, 67]⟩ : ByteArray)]) (ok := fun _ => True) (okp := fun _ => True) ?hr ?hp (fun _ hk => hk) trivial (Below.refl _ _) (Nat.le_refl _) (by simp) ?_; (case hd => rfl); (case hg => rfl); (case hr => first | (go_simp; done) | (go_simp; rfl)); (case hp => exact (Reps.one (show Kd.M Kd.string _ _ _ (⟨#[83, 89, 83, 68, 66, 65]⟩ : ByteArray) [.string (⟨#[83, 89, 83, 68, 66, 65]⟩ : ByteArray)] from rfl) (Reps.one (show Kd.M Kd.string _ _ _ (⟨#[83, 89, 83, 79, 80, 69, 82]⟩ : ByteArray) [.string (⟨#[83, 89, 83, 79, 80, 69, 82]⟩ : ByteArray)] from rfl) (Reps.one (show Kd.M Kd.string _ _ _ (⟨#[83, 89, 83, 65, 83, 77]⟩ : ByteArray) [.string (⟨#[83, 89, 83, 65, 83, 77]⟩ : ByteArray)] from rfl) (Reps.one (show Kd.M Kd.string _ _ _ (⟨#[83, 89, 83, 66, 65, 67, 75, 85, 80]⟩ : ByteArray) [.string (⟨#[83, 89, 83, 66, 65, 67, 75, 85, 80]⟩ : ByteArray)] from rfl) (Reps.one (show Kd.M Kd.string _ _ _ (⟨#[83, 89, 83, 68, 71]⟩ : ByteArray) [.string (⟨#[83, 89, 83, 68, 71]⟩ : ByteArray)] from rfl) (Reps.one (show Kd.M Kd.string _ _ _ (⟨#[83, 89, 83, 75, 77]⟩ : ByteArray) [.string (⟨#[83, 89, 83, 75, 77]⟩ : ByteArray)] from rfl) (Reps.one (show Kd.M Kd.string _ _ _ (⟨#[83, 89, 83, 82, 65, 67]⟩ : ByteArray) [.string (⟨#[83, 89, 83, 82, 65, 67]⟩ : ByteArray)] from rfl) (Reps.none _ _))))))))); intro v114 w1 ho2 hb hg_ hnew_; clear hg_ hnew_; (first | rw [← Ny113.out] at ho2 | (simp only [Int.reduceToNat] at ho2; rw [← Ny113.out] at ho2)); have n0_ := Aside0.mk (Kd.R_lower ho2 (below_size (by repeat (first | (with_reducible first | exact HB.out | apply below_alloc | apply pw_below_drewN | apply below_drew1) | exact HB.out)))); have n1_ := Aside0.mk (below_step (by repeat (first | (with_reducible first | exact HB.out | apply below_alloc | apply pw_below_drewN | apply below_drew1) | exact HB.out)) hb); clear HB; have HO115 := n0_; have HB := n1_; clear n0_ n1_; clear hb ho2))
  go_ret
  exact ⟨_, by first | rfl | (simp [errW_none, errW_some] <;> rfl) | (simp [*, errW_none, errW_some] <;> rfl), by (with_reducible repeat (first | apply Kd.R_alloc | apply Kd.R_drewN | apply Kd.R_drew)); exact HO115.out, by repeat (first | (with_reducible first | exact HB.out | apply below_alloc | apply pw_below_drewN | apply below_drew1) | exact HB.out)⟩

-- GIVEN: function 46 (spec_configLow)

/-! ### spec_PrivilegeNumber: function 22 -/
def spec_PrivilegeNumber.l0 : Nat → ByteArray → List Int → List ByteArray → Int → Int → Option (Int)
  | 0, _, _, _, _, _ => none
  | k + 1, x0, x3, x7, x8, x9 => if x9 < x8 then (if 0 ≤ x9 then (if x9 < (x7.length : Int) then ((spec_configLow.f (rdOf ByteArray.empty x7 x9)).bind fun t123 => ((spec_configLow.f x0).bind fun t124 => (if t123.toList = t124.toList then (if x9 < (x3.length : Int) then (some (rd x3 x9)) else (none)) else (spec_PrivilegeNumber.l0 k x0 x3 x7 x8 (wrap64 (x9 + 1)))))) else (none)) else (none)) else (some 0)
def spec_PrivilegeNumber.f (k : Nat) (a0 : ByteArray) : Option (Int) := (spec_PrivilegeNames.f).bind fun t119 => (spec_PrivilegeNumber.l0 k a0 (([32, 64, 4194304, 16777216, 33554432, 67108864, 134217728] : List Int)) t119 (t119.length : Int) 0)
theorem spec_PrivilegeNumber.mono_l : ∀ k, (∀ y0 y1 y2 y3 y4, LeO (spec_PrivilegeNumber.l0 k y0 y1 y2 y3 y4) (spec_PrivilegeNumber.l0 (k + 1) y0 y1 y2 y3 y4))
  | 0 => fun _ _ _ _ _ r h => by simp [spec_PrivilegeNumber.l0] at h
  | k + 1 => by
    have ih0 := spec_PrivilegeNumber.mono_l k
    · intro y0 y1 y2 y3 y4
      unfold spec_PrivilegeNumber.l0
      repeat' first
      | (with_reducible exact ih0 _ _ _ _ _)
      | (with_reducible exact LeO.refl _)
      | (with_reducible exact LeO.none _)
      | (with_reducible refine LeO.ite ?_ ?_)
      | (with_reducible refine LeO.bind ?_ (fun _ => ?_))
      | exact ih0 _ _ _ _ _
      | exact LeO.none _
      | refine LeO.ite ?_ ?_
      | refine LeO.bind ?_ (fun _ => ?_)
theorem spec_PrivilegeNumber.mono : ∀ a0 k, LeO (spec_PrivilegeNumber.f k a0) (spec_PrivilegeNumber.f (k + 1) a0) := by
  intro a0 k
  have ih0 := spec_PrivilegeNumber.mono_l k
  unfold spec_PrivilegeNumber.f
  repeat' first
      | (with_reducible exact ih0 _ _ _ _ _)
      | (with_reducible exact LeO.refl _)
      | (with_reducible exact LeO.none _)
      | (with_reducible refine LeO.ite ?_ ?_)
      | (with_reducible refine LeO.bind ?_ (fun _ => ?_))
      | exact ih0 _ _ _ _ _
      | exact LeO.none _
      | refine LeO.ite ?_ ?_
      | refine LeO.bind ?_ (fun _ => ?_)
set_option maxHeartbeats 8000000 in
set_option maxRecDepth 100000 in
theorem spec_PrivilegeNumber.calls (k : Nat) (a0 : ByteArray) (r : Int) (w : World) (h : spec_PrivilegeNumber.f k a0 = some r) :
    Calls Tryd.prog 22 #[.string a0] w fun e w' => e = .returned (.int .i64 r) ∧ Below w.heap.size w w' := by
  have HB := Aside0.mk (Below.refl w.heap.size w)
  have H : ((spec_PrivilegeNames.f).bind fun t119 => (spec_PrivilegeNumber.l0 k a0 (([32, 64, 4194304, 16777216, 33554432, 67108864, 134217728] : List Int)) t119 (t119.length : Int) 0)) = some r := h
  clear h
  obtain ⟨y116, hy116⟩ : ∃ y_ : List Int, y_ = (([32, 64, 4194304, 16777216, 33554432, 67108864, 134217728] : List Int)) := ⟨_, rfl⟩
  replace H : ((spec_PrivilegeNames.f).bind fun t119 => (spec_PrivilegeNumber.l0 k a0 y116 t119 (t119.length : Int) 0)) = some r := by first | (rw [hy116]; with_reducible exact H) | (have H2_ := (Option.bind_some _ _).symm.trans H; rw [hy116]; with_reducible exact H2_) | (have H2_ := (Option.bind_some _ _).symm.trans H; with_reducible exact H2_) | with_reducible exact H | (rw [hy116]; exact H) | exact H
  have Ny116 := Aside0.mk hy116
  clear hy116
  replace H := Option.bind_eq_some_iff.mp H
  obtain ⟨t119, A20, H⟩ := H
  replace H : (spec_PrivilegeNumber.l0 k a0 y116 t119 (t119.length : Int) 0) = some r := H
  have A2 := Aside0.mk A20
  clear A20
  have H' := Aside0.mk H
  clear H
  go_enter Tryd.func22, Tryd.ntmps22
  go_wp2_with (first | ((with_reducible refine gate_dst (N := 6) rfl ?_); refine Kd.R_lit (Kd.int .i64) _ 3 ?hg (N := 6) ?hd (xs := ([32, 64, 4194304, 16777216, 33554432, 67108864, 134217728] : List Int)) (inner := [.int .i64 32, .int .i64 64, .int .i64 4194304, .int .i64 16777216, .int .i64 33554432, .int .i64 67108864, .int .i64 134217728]) (ok := fun _ => True) (okp := fun _ => True) ?hr ?hp (fun _ hk => hk) trivial (Below.refl _ _) (Nat.le_refl _) (by simp) ?_; (case hd => rfl); (case hg => rfl); (case hr => first | (go_simp; done) | (go_simp; rfl)); (case hp => exact (Reps.one (show Kd.M (Kd.int .i64) _ _ _ 32 [.int .i64 32] from rfl) (Reps.one (show Kd.M (Kd.int .i64) _ _ _ 64 [.int .i64 64] from rfl) (Reps.one (show Kd.M (Kd.int .i64) _ _ _ 4194304 [.int .i64 4194304] from rfl) (Reps.one (show Kd.M (Kd.int .i64) _ _ _ 16777216 [.int .i64 16777216] from rfl) (Reps.one (show Kd.M (Kd.int .i64) _ _ _ 33554432 [.int .i64 33554432] from rfl) (Reps.one (show Kd.M (Kd.int .i64) _ _ _ 67108864 [.int .i64 67108864] from rfl) (Reps.one (show Kd.M (Kd.int .i64) _ _ _ 134217728 [.int .i64 134217728] from rfl) (Reps.none _ _))))))))); intro v117 w3 ho4 hb hg_ hnew_; clear hg_ hnew_; (first | rw [← Ny116.out] at ho4 | (simp only [Int.reduceToNat] at ho4; rw [← Ny116.out] at ho4)); have n0_ := Aside0.mk (Kd.R_lower ho4 (below_size (by repeat (first | (with_reducible first | exact HB.out | apply below_alloc | apply pw_below_drewN | apply below_drew1) | exact HB.out)))); have n1_ := Aside0.mk (below_step (by repeat (first | (with_reducible first | exact HB.out | apply below_alloc | apply pw_below_drewN | apply below_drew1) | exact HB.out)) hb); clear HB; have HO118 := n0_; have HB := n1_; clear n0_ n1_; clear hb ho4) | ((with_reducible refine gate_callee (f := 23) rfl ?_); refine goesL_ (some 7) rfl rfl Tryd.func23 (by kernel_rfl) rfl #[] rfl (by (try simp only [List.map_toArray, List.map_cons, List.map_nil]); first | done | rfl | (simp only [List.length_drop, List.length_take]; rfl)) ?_; (with_reducible refine (spec_PrivilegeNames.calls  t119 _ A2.out).mono ?_); rintro e w5 ⟨v120, rfl, ho0, hb⟩; refine ⟨_, rfl, ?_⟩; have n0_ := Aside0.mk (Kd.R_below (by (with_reducible repeat (first | apply Kd.R_alloc | apply Kd.R_drewN | apply Kd.R_drew)); exact HO118.out) hb); have n1_ := Aside0.mk (Kd.R_lower ho0 (below_size (by repeat (first | (with_reducible first | exact HB.out | apply below_alloc | apply pw_below_drewN | apply below_drew1) | exact HB.out)))); have n2_ := Aside0.mk (below_step (by repeat (first | (with_reducible first | exact HB.out | apply below_alloc | apply pw_below_drewN | apply below_drew1) | exact HB.out)) hb); clear HO118; clear HB; have HO118 := n0_; have HO121 := n1_; have HB := n2_; clear n0_ n1_ n2_; (try clear hb); (try clear hb2); (try clear hk); (try clear hi); (try clear ho0); obtain ⟨Ao6, co6, eo6⟩ := Kd.R_slice HO121.out; subst eo6))
  go_loopg [9] k (fun kq v9 w' => ∃ (x9_1 : Int), v9 = .int .i64 x9_1 ∧ Aside0 (spec_PrivilegeNumber.l0 kq a0 y116 t119 (t119.length : Int) x9_1 = some r) ∧ Aside0 (kq ≤ k) ∧ Aside0 (Kd.R (Kd.int .i64) 3 w' w.heap.size (fun _ => True) v117 y116) ∧ Aside0 (Kd.R Kd.string 9 w' w.heap.size (fun _ => True) (.slice Ao6 t119.length co6) t119) ∧ Aside0 (Below w.heap.size w w'))
  case atStart => exact ⟨(0), (by first | rfl | (simp; done) | (simp [*]; done)), H', ⟨Nat.le_refl _⟩, ⟨by (with_reducible repeat (first | apply Kd.R_alloc | apply Kd.R_drewN | apply Kd.R_drew)); exact HO118.out⟩, ⟨by (with_reducible repeat (first | apply Kd.R_alloc | apply Kd.R_drewN | apply Kd.R_drew)); exact HO121.out⟩, ⟨by repeat (first | (with_reducible first | exact HB.out | apply below_alloc | apply pw_below_drewN | apply below_drew1) | exact HB.out)⟩⟩
  case round =>
    clear H'
    try clear c2
    try clear p2
    obtain ⟨x9_1, rfl, HA, HK1, HO_3, HO_7, HB⟩ := hrel
    cases gk with
    | zero => exact absurd HA.out (by simp [spec_PrivilegeNumber.l0])
    | succ k1 =>
      have H := HA.out
      clear HA
      simp only [spec_PrivilegeNumber.l0] at H
      by_cases c7 : x9_1 < (t119.length : Int)
      · rw [if_pos c7] at H
        have c7b0 : decide (x9_1 < (t119.length : Int)) = true := decide_eq_true c7
        clear c7
        by_cases c8 : 0 ≤ x9_1
        · rw [if_pos c8] at H
          have c8b0 : decide (0 ≤ x9_1) = true := decide_eq_true c8
          clear c8
          by_cases c9 : x9_1 < (t119.length : Int)
          · rw [if_pos c9] at H
            have c9b0 : decide (x9_1 < (t119.length : Int)) = true := decide_eq_true c9
            clear c9
            replace H := Option.bind_eq_some_iff.mp H
            obtain ⟨t123, A100, H⟩ := H
            replace H : ((spec_configLow.f a0).bind fun t124 => (if t123.toList = t124.toList then (if x9_1 < (y116.length : Int) then (some (rd y116 x9_1)) else (none)) else (spec_PrivilegeNumber.l0 k1 a0 y116 t119 (t119.length : Int) (wrap64 (x9_1 + 1))))) = some r := H
            have A10 := Aside0.mk A100
            clear A100
            replace H := Option.bind_eq_some_iff.mp H
            obtain ⟨t124, A110, H⟩ := H
            replace H : (if t123.toList = t124.toList then (if x9_1 < (y116.length : Int) then (some (rd y116 x9_1)) else (none)) else (spec_PrivilegeNumber.l0 k1 a0 y116 t119 (t119.length : Int) (wrap64 (x9_1 + 1)))) = some r := H
            have A11 := Aside0.mk A110
            clear A110
            by_cases c12 : t123.toList = t124.toList
            · rw [if_pos c12] at H
              have c12b0 : (t123.toList == t124.toList) = true := beq_iff_eq.mpr c12
              have c12b1 : (t123.toList != t124.toList) = false := bne_eq_false_iff_eq.mpr c12
              clear c12
              by_cases c13 : x9_1 < (y116.length : Int)
              · rw [if_pos c13] at H
                have c13b0 : decide (x9_1 < (y116.length : Int)) = true := decide_eq_true c13
                clear c13
                obtain rfl := Option.some.inj H
                have p122 : 0 ≤ (x9_1 : Int) := of_decide_eq_true (by first | (with_reducible assumption) | assumption)
                have q122 : x9_1 < (t119.length : Int) := of_decide_eq_true (by first | (with_reducible assumption) | assumption)
                obtain ⟨ad122, e122, hx122_0⟩ := Kd.at_string (Kd.R_reads' HO_7.out).2.2 x9_1 p122 q122
                cases e122
                replace p122 := eq_true p122
                replace q122 := eq_true q122
                go_wp2_with (first | ((with_reducible refine gate_callee (f := 46) rfl ?_); refine goesL_ (some 15) rfl rfl Tryd.func46 (by kernel_rfl) rfl #[.string (rdOf ByteArray.empty t119 x9_1)] rfl (by (try simp only [List.map_toArray, List.map_cons, List.map_nil]); first | done | rfl | (simp only [List.length_drop, List.length_take]; rfl)) ?_; (with_reducible refine (spec_configLow.calls (rdOf ByteArray.empty t119 x9_1) t123 _ A10.out).mono ?_); rintro e w14 ⟨rfl, hb⟩; refine ⟨_, rfl, ?_⟩; have n0_ := Aside0.mk (Kd.R_below (by (with_reducible repeat (first | apply Kd.R_alloc | apply Kd.R_drewN | apply Kd.R_drew)); exact HO_3.out) hb); have n1_ := Aside0.mk (Kd.R_below (by (with_reducible repeat (first | apply Kd.R_alloc | apply Kd.R_drewN | apply Kd.R_drew)); exact HO_7.out) hb); have n2_ := Aside0.mk (below_step (by repeat (first | (with_reducible first | exact HB.out | apply below_alloc | apply pw_below_drewN | apply below_drew1) | exact HB.out)) hb); clear HO_3; clear HO_7; clear HB; have HO_3 := n0_; have HO_7 := n1_; have HB := n2_; clear n0_ n1_ n2_; (try clear hb); (try clear hb2); (try clear hk); (try clear hi)) | ((with_reducible refine gate_callee (f := 46) rfl ?_); refine goesL_ (some 17) rfl rfl Tryd.func46 (by kernel_rfl) rfl #[.string a0] rfl (by (try simp only [List.map_toArray, List.map_cons, List.map_nil]); first | done | rfl | (simp only [List.length_drop, List.length_take]; rfl)) ?_; (with_reducible refine (spec_configLow.calls a0 t124 _ A11.out).mono ?_); rintro e w15 ⟨rfl, hb⟩; refine ⟨_, rfl, ?_⟩; have n0_ := Aside0.mk (Kd.R_below (by (with_reducible repeat (first | apply Kd.R_alloc | apply Kd.R_drewN | apply Kd.R_drew)); exact HO_3.out) hb); have n1_ := Aside0.mk (Kd.R_below (by (with_reducible repeat (first | apply Kd.R_alloc | apply Kd.R_drewN | apply Kd.R_drew)); exact HO_7.out) hb); have n2_ := Aside0.mk (below_step (by repeat (first | (with_reducible first | exact HB.out | apply below_alloc | apply pw_below_drewN | apply below_drew1) | exact HB.out)) hb); clear HO_3; clear HO_7; clear HB; have HO_3 := n0_; have HO_7 := n1_; have HB := n2_; clear n0_ n1_ n2_; (try clear hb); (try clear hb2); (try clear hk); (try clear hi); obtain ⟨Ao16, co16, eo16⟩ := Kd.R_slice HO_3.out; subst eo16; have p125 : 0 ≤ (x9_1 : Int) := of_decide_eq_true (by first | (with_reducible assumption) | assumption); have q125 : x9_1 < (y116.length : Int) := of_decide_eq_true (by first | (with_reducible assumption) | assumption); obtain ⟨ad125, e125, hx125_0⟩ := Kd.at_int (Kd.R_reads' HO_3.out).2.2 x9_1 p125 q125; cases e125; replace p125 := eq_true p125; replace q125 := eq_true q125))
                go_ret
                exact ⟨by first | rfl | (simp [errW_none, errW_some] <;> rfl) | (simp [*, errW_none, errW_some] <;> rfl), by repeat (first | (with_reducible first | exact HB.out | apply below_alloc | apply pw_below_drewN | apply below_drew1) | exact HB.out)⟩
              · rw [if_neg c13] at H
                exact absurd H (by simp)
            · rw [if_neg c12] at H
              have c12b0 : (t123.toList == t124.toList) = false := beq_eq_false_iff_ne.mpr c12
              have c12b1 : (t123.toList != t124.toList) = true := bne_iff_ne.mpr c12
              have H' := Aside0.mk H
              clear H
              have p122 : 0 ≤ (x9_1 : Int) := of_decide_eq_true (by first | (with_reducible assumption) | assumption)
              have q122 : x9_1 < (t119.length : Int) := of_decide_eq_true (by first | (with_reducible assumption) | assumption)
              obtain ⟨ad122, e122, hx122_0⟩ := Kd.at_string (Kd.R_reads' HO_7.out).2.2 x9_1 p122 q122
              cases e122
              replace p122 := eq_true p122
              replace q122 := eq_true q122
              go_wp2_with (first | ((with_reducible refine gate_callee (f := 46) rfl ?_); refine goesL_ (some 15) rfl rfl Tryd.func46 (by kernel_rfl) rfl #[.string (rdOf ByteArray.empty t119 x9_1)] rfl (by (try simp only [List.map_toArray, List.map_cons, List.map_nil]); first | done | rfl | (simp only [List.length_drop, List.length_take]; rfl)) ?_; (with_reducible refine (spec_configLow.calls (rdOf ByteArray.empty t119 x9_1) t123 _ A10.out).mono ?_); rintro e w17 ⟨rfl, hb⟩; refine ⟨_, rfl, ?_⟩; have n0_ := Aside0.mk (Kd.R_below (by (with_reducible repeat (first | apply Kd.R_alloc | apply Kd.R_drewN | apply Kd.R_drew)); exact HO_3.out) hb); have n1_ := Aside0.mk (Kd.R_below (by (with_reducible repeat (first | apply Kd.R_alloc | apply Kd.R_drewN | apply Kd.R_drew)); exact HO_7.out) hb); have n2_ := Aside0.mk (below_step (by repeat (first | (with_reducible first | exact HB.out | apply below_alloc | apply pw_below_drewN | apply below_drew1) | exact HB.out)) hb); clear HO_3; clear HO_7; clear HB; have HO_3 := n0_; have HO_7 := n1_; have HB := n2_; clear n0_ n1_ n2_; (try clear hb); (try clear hb2); (try clear hk); (try clear hi)) | ((with_reducible refine gate_callee (f := 46) rfl ?_); refine goesL_ (some 17) rfl rfl Tryd.func46 (by kernel_rfl) rfl #[.string a0] rfl (by (try simp only [List.map_toArray, List.map_cons, List.map_nil]); first | done | rfl | (simp only [List.length_drop, List.length_take]; rfl)) ?_; (with_reducible refine (spec_configLow.calls a0 t124 _ A11.out).mono ?_); rintro e w18 ⟨rfl, hb⟩; refine ⟨_, rfl, ?_⟩; have n0_ := Aside0.mk (Kd.R_below (by (with_reducible repeat (first | apply Kd.R_alloc | apply Kd.R_drewN | apply Kd.R_drew)); exact HO_3.out) hb); have n1_ := Aside0.mk (Kd.R_below (by (with_reducible repeat (first | apply Kd.R_alloc | apply Kd.R_drewN | apply Kd.R_drew)); exact HO_7.out) hb); have n2_ := Aside0.mk (below_step (by repeat (first | (with_reducible first | exact HB.out | apply below_alloc | apply pw_below_drewN | apply below_drew1) | exact HB.out)) hb); clear HO_3; clear HO_7; clear HB; have HO_3 := n0_; have HO_7 := n1_; have HB := n2_; clear n0_ n1_ n2_; (try clear hb); (try clear hb2); (try clear hk); (try clear hi)))
              go_roundg k1
              case measure => have := HK1.out; omega
              case rel => exact ⟨(wrap64 (x9_1 + 1)), (by first | rfl | (simp; done) | (simp [*]; done)), H', ⟨by have := HK1.out; omega⟩, ⟨by (with_reducible repeat (first | apply Kd.R_alloc | apply Kd.R_drewN | apply Kd.R_drew)); exact HO_3.out⟩, ⟨by (with_reducible repeat (first | apply Kd.R_alloc | apply Kd.R_drewN | apply Kd.R_drew)); exact HO_7.out⟩, ⟨by repeat (first | (with_reducible first | exact HB.out | apply below_alloc | apply pw_below_drewN | apply below_drew1) | exact HB.out)⟩⟩
          · rw [if_neg c9] at H
            exact absurd H (by simp)
        · rw [if_neg c8] at H
          exact absurd H (by simp)
      · rw [if_neg c7] at H
        have c7b0 : decide (x9_1 < (t119.length : Int)) = false := decide_eq_false c7
        clear c7
        obtain rfl := Option.some.inj H
        go_wp2
        go_ret
        exact ⟨by first | rfl | (simp [errW_none, errW_some] <;> rfl) | (simp [*, errW_none, errW_some] <;> rfl), by repeat (first | (with_reducible first | exact HB.out | apply below_alloc | apply pw_below_drewN | apply below_drew1) | exact HB.out)⟩

-- NOT PRINTED: function 5 (laws_FnPrivilege)

-- NOT PRINTED: function 6 (laws_FnPrivilegeBits)

/-! ### laws_zzFits1: function 24 -/
def laws_zzFits1.f (a0_0 : ByteArray) (a0_1 : ByteArray) (a0_2 : Int) : Option (Bool) := if (a0_0.size : Int) > 2147483647 then (some false) else (if (a0_1.size : Int) > 2147483647 then (some false) else (some true))
set_option maxHeartbeats 8000000 in
set_option maxRecDepth 100000 in
theorem laws_zzFits1.calls (a0_0 : ByteArray) (a0_1 : ByteArray) (a0_2 : Int) (r : Bool) (w : World) (h : laws_zzFits1.f a0_0 a0_1 a0_2 = some r) :
    Calls Tryd.prog 24 #[.agg #[.string a0_0, .string a0_1, .int .i64 a0_2]] w fun e w' => e = .returned (.bool r) ∧ Below w.heap.size w w' := by
  have hu30 := Tryd.underlying30
  have HB := Aside0.mk (Below.refl w.heap.size w)
  have H : (if (a0_0.size : Int) > 2147483647 then (some false) else (if (a0_1.size : Int) > 2147483647 then (some false) else (some true))) = some r := h
  clear h
  by_cases c2 : (a0_0.size : Int) > 2147483647
  · rw [if_pos c2] at H
    have c2b0 : decide (2147483647 < (a0_0.size : Int)) = true := decide_eq_true c2
    have c2b1 : decide (2147483647 < a0_0.size) = true := decide_eq_true (by omega)
    clear c2
    obtain rfl := Option.some.inj H
    go_enter Tryd.func24, Tryd.ntmps24
    go_wp2_with (first | ((with_reducible refine gate_dst (N := 1) rfl ?_); refine box_event ?hg (N := 1) ?hd (cs := #[.string a0_0, .string a0_1, .int .i64 a0_2]) (t := 30) ?hr ?_; (case hd => rfl); (case hg => rfl); (case hr => first | (go_simp; done) | (go_simp; rfl)); intro gb134 hg w3 hbox hb; have n0_ := Aside0.mk (below_step (by repeat (first | (with_reducible first | exact HB.out | apply below_alloc | apply pw_below_drewN | apply below_drew1) | exact HB.out)) hb); have n1_ := Aside0.mk (hbox); have n2_ := Aside0.mk ((by rw [hg]; exact (below_size (by repeat (first | (with_reducible first | exact HB.out | apply below_alloc | apply pw_below_drewN | apply below_drew1) | exact HB.out))) : w.heap.size ≤ gb134)); have n3_ := Aside0.mk ((by rw [hg]; exact (below_size (by repeat (first | (with_reducible first | exact HB.out | apply below_alloc | apply pw_below_drewN | apply below_drew1) | exact HB.out))) : w.heap.size ≤ gb134)); clear HB; have HB := n0_; have BK134 := n1_; have GW134 := n2_; have GE134 := n3_; clear n0_ n1_ n2_ n3_; clear hb hbox hg; have hcz4_0 : w3.cell? ⟨gb134, 0, none⟩ = some (.string a0_0) := (blk_cell BK134.out 0).trans rfl; have hcz4_1 : w3.cell? ⟨gb134, 1, none⟩ = some (.string a0_1) := (blk_cell BK134.out 1).trans rfl; have hcz4_2 : w3.cell? ⟨gb134, 2, none⟩ = some (.int .i64 a0_2) := (blk_cell BK134.out 2).trans rfl; have hfz4_0 := blk_frozen BK134.out 0; have hfz4_1 := blk_frozen BK134.out 1; have hfz4_2 := blk_frozen BK134.out 2))
    go_ret
    exact ⟨by first | rfl | (simp [errW_none, errW_some] <;> rfl) | (simp [*, errW_none, errW_some] <;> rfl), by repeat (first | (with_reducible first | exact HB.out | apply below_alloc | apply pw_below_drewN | apply below_drew1 | refine below_set ?_ GE134.out) | exact HB.out)⟩
  · rw [if_neg c2] at H
    have c2b0 : decide (2147483647 < (a0_0.size : Int)) = false := decide_eq_false c2
    have c2b1 : decide (2147483647 < a0_0.size) = false := decide_eq_false (by omega)
    clear c2
    by_cases c5 : (a0_1.size : Int) > 2147483647
    · rw [if_pos c5] at H
      have c5b0 : decide (2147483647 < (a0_1.size : Int)) = true := decide_eq_true c5
      have c5b1 : decide (2147483647 < a0_1.size) = true := decide_eq_true (by omega)
      clear c5
      obtain rfl := Option.some.inj H
      go_enter Tryd.func24, Tryd.ntmps24
      go_wp2_with (first | ((with_reducible refine gate_dst (N := 1) rfl ?_); refine box_event ?hg (N := 1) ?hd (cs := #[.string a0_0, .string a0_1, .int .i64 a0_2]) (t := 30) ?hr ?_; (case hd => rfl); (case hg => rfl); (case hr => first | (go_simp; done) | (go_simp; rfl)); intro gb134 hg w6 hbox hb; have n0_ := Aside0.mk (below_step (by repeat (first | (with_reducible first | exact HB.out | apply below_alloc | apply pw_below_drewN | apply below_drew1) | exact HB.out)) hb); have n1_ := Aside0.mk (hbox); have n2_ := Aside0.mk ((by rw [hg]; exact (below_size (by repeat (first | (with_reducible first | exact HB.out | apply below_alloc | apply pw_below_drewN | apply below_drew1) | exact HB.out))) : w.heap.size ≤ gb134)); have n3_ := Aside0.mk ((by rw [hg]; exact (below_size (by repeat (first | (with_reducible first | exact HB.out | apply below_alloc | apply pw_below_drewN | apply below_drew1) | exact HB.out))) : w.heap.size ≤ gb134)); clear HB; have HB := n0_; have BK134 := n1_; have GW134 := n2_; have GE134 := n3_; clear n0_ n1_ n2_ n3_; clear hb hbox hg; have hcz7_0 : w6.cell? ⟨gb134, 0, none⟩ = some (.string a0_0) := (blk_cell BK134.out 0).trans rfl; have hcz7_1 : w6.cell? ⟨gb134, 1, none⟩ = some (.string a0_1) := (blk_cell BK134.out 1).trans rfl; have hcz7_2 : w6.cell? ⟨gb134, 2, none⟩ = some (.int .i64 a0_2) := (blk_cell BK134.out 2).trans rfl; have hfz7_0 := blk_frozen BK134.out 0; have hfz7_1 := blk_frozen BK134.out 1; have hfz7_2 := blk_frozen BK134.out 2))
      go_ret
      exact ⟨by first | rfl | (simp [errW_none, errW_some] <;> rfl) | (simp [*, errW_none, errW_some] <;> rfl), by repeat (first | (with_reducible first | exact HB.out | apply below_alloc | apply pw_below_drewN | apply below_drew1 | refine below_set ?_ GE134.out) | exact HB.out)⟩
    · rw [if_neg c5] at H
      have c5b0 : decide (2147483647 < (a0_1.size : Int)) = false := decide_eq_false c5
      have c5b1 : decide (2147483647 < a0_1.size) = false := decide_eq_false (by omega)
      clear c5
      obtain rfl := Option.some.inj H
      go_enter Tryd.func24, Tryd.ntmps24
      go_wp2_with (first | ((with_reducible refine gate_dst (N := 1) rfl ?_); refine box_event ?hg (N := 1) ?hd (cs := #[.string a0_0, .string a0_1, .int .i64 a0_2]) (t := 30) ?hr ?_; (case hd => rfl); (case hg => rfl); (case hr => first | (go_simp; done) | (go_simp; rfl)); intro gb134 hg w8 hbox hb; have n0_ := Aside0.mk (below_step (by repeat (first | (with_reducible first | exact HB.out | apply below_alloc | apply pw_below_drewN | apply below_drew1) | exact HB.out)) hb); have n1_ := Aside0.mk (hbox); have n2_ := Aside0.mk ((by rw [hg]; exact (below_size (by repeat (first | (with_reducible first | exact HB.out | apply below_alloc | apply pw_below_drewN | apply below_drew1) | exact HB.out))) : w.heap.size ≤ gb134)); have n3_ := Aside0.mk ((by rw [hg]; exact (below_size (by repeat (first | (with_reducible first | exact HB.out | apply below_alloc | apply pw_below_drewN | apply below_drew1) | exact HB.out))) : w.heap.size ≤ gb134)); clear HB; have HB := n0_; have BK134 := n1_; have GW134 := n2_; have GE134 := n3_; clear n0_ n1_ n2_ n3_; clear hb hbox hg; have hcz9_0 : w8.cell? ⟨gb134, 0, none⟩ = some (.string a0_0) := (blk_cell BK134.out 0).trans rfl; have hcz9_1 : w8.cell? ⟨gb134, 1, none⟩ = some (.string a0_1) := (blk_cell BK134.out 1).trans rfl; have hcz9_2 : w8.cell? ⟨gb134, 2, none⟩ = some (.int .i64 a0_2) := (blk_cell BK134.out 2).trans rfl; have hfz9_0 := blk_frozen BK134.out 0; have hfz9_1 := blk_frozen BK134.out 1; have hfz9_2 := blk_frozen BK134.out 2))
      go_ret
      exact ⟨by first | rfl | (simp [errW_none, errW_some] <;> rfl) | (simp [*, errW_none, errW_some] <;> rfl), by repeat (first | (with_reducible first | exact HB.out | apply below_alloc | apply pw_below_drewN | apply below_drew1 | refine below_set ?_ GE134.out) | exact HB.out)⟩

/-! ### slices_Index_byte_byte: function 60 -/
def slices_Index_byte_byte.l0 : Nat → List Int → Int → Int → Int → Option (Int)
  | 0, _, _, _, _ => none
  | k + 1, x0, x1, x7, x8 => if x8 < x7 then (if 0 ≤ x8 then (if x8 < (x0.length : Int) then (if x1 = (rd x0 x8) then (some x8) else (slices_Index_byte_byte.l0 k x0 x1 x7 (wrap64 (x8 + 1)))) else (none)) else (none)) else (some (-1))
def slices_Index_byte_byte.f (k : Nat) (l0 : List Int) (a1 : Int) : Option (Int) := slices_Index_byte_byte.l0 k l0 a1 (l0.length : Int) 0
theorem slices_Index_byte_byte.mono_l : ∀ k, (∀ y0 y1 y2 y3, LeO (slices_Index_byte_byte.l0 k y0 y1 y2 y3) (slices_Index_byte_byte.l0 (k + 1) y0 y1 y2 y3))
  | 0 => fun _ _ _ _ r h => by simp [slices_Index_byte_byte.l0] at h
  | k + 1 => by
    have ih0 := slices_Index_byte_byte.mono_l k
    · intro y0 y1 y2 y3
      unfold slices_Index_byte_byte.l0
      repeat' first
      | (with_reducible exact ih0 _ _ _ _)
      | (with_reducible exact LeO.refl _)
      | (with_reducible exact LeO.none _)
      | (with_reducible refine LeO.ite ?_ ?_)
      | (with_reducible refine LeO.bind ?_ (fun _ => ?_))
      | exact ih0 _ _ _ _
      | exact LeO.none _
      | refine LeO.ite ?_ ?_
      | refine LeO.bind ?_ (fun _ => ?_)
theorem slices_Index_byte_byte.mono : ∀ a0 a1 k, LeO (slices_Index_byte_byte.f k a0 a1) (slices_Index_byte_byte.f (k + 1) a0 a1) := by
  intro a0 a1 k
  have ih0 := slices_Index_byte_byte.mono_l k
  unfold slices_Index_byte_byte.f
  repeat' first
      | (with_reducible exact ih0 _ _ _ _)
      | (with_reducible exact LeO.refl _)
      | (with_reducible exact LeO.none _)
      | (with_reducible refine LeO.ite ?_ ?_)
      | (with_reducible refine LeO.bind ?_ (fun _ => ?_))
      | exact ih0 _ _ _ _
      | exact LeO.none _
      | refine LeO.ite ?_ ?_
      | refine LeO.bind ?_ (fun _ => ?_)
set_option maxHeartbeats 8000000 in
set_option maxRecDepth 100000 in
theorem slices_Index_byte_byte.calls (k : Nat) (A0 : Option Addr) (c0 : Nat) (l0 : List Int) (a1 : Int) (r : Int) (w : World) (hr0 : Kd.C (Kd.int .u8) w A0 l0.length l0) (hc0 : l0.length ≤ c0) (h : slices_Index_byte_byte.f k l0 a1 = some r) :
    Calls Tryd.prog 60 #[.slice A0 l0.length c0, .int .u8 a1] w fun e w' => e = .returned (.int .i64 r) ∧ Drawn0 w w' := by
  have HR0 := Aside0.mk hr0
  have HC0 := Aside0.mk hc0
  clear hr0 hc0
  have H : (slices_Index_byte_byte.l0 k l0 a1 (l0.length : Int) 0) = some r := h
  clear h
  have H' := Aside0.mk H
  clear H
  go_enter Tryd.func60, Tryd.ntmps60
  go_wp2
  go_loopg [8] k (fun kq v8 w' => ∃ (x8_1 : Int), v8 = .int .i64 x8_1 ∧ Aside0 (slices_Index_byte_byte.l0 kq l0 a1 (l0.length : Int) x8_1 = some r) ∧ Aside0 (kq ≤ k) ∧ Drawn0 w w')
  case atStart => exact ⟨(0), (by first | rfl | (simp; done) | (simp [*]; done)), H', ⟨Nat.le_refl _⟩, by repeat (first | exact Drawn0.refl _ | apply Drawn0.step)⟩
  case round =>
    clear H'
    try clear p2
    obtain ⟨x8_1, rfl, HA, HK1, ⟨m1, rfl⟩⟩ := hrel
    cases gk with
    | zero => exact absurd HA.out (by simp [slices_Index_byte_byte.l0])
    | succ k1 =>
      have H := HA.out
      clear HA
      simp only [slices_Index_byte_byte.l0] at H
      by_cases c3 : x8_1 < (l0.length : Int)
      · rw [if_pos c3] at H
        have c3b0 : decide (x8_1 < (l0.length : Int)) = true := decide_eq_true c3
        clear c3
        by_cases c4 : 0 ≤ x8_1
        · rw [if_pos c4] at H
          have c4b0 : decide (0 ≤ x8_1) = true := decide_eq_true c4
          clear c4
          by_cases c5 : x8_1 < (l0.length : Int)
          · rw [if_pos c5] at H
            have c5b0 : decide (x8_1 < (l0.length : Int)) = true := decide_eq_true c5
            clear c5
            by_cases c6 : a1 = (rd l0 x8_1)
            · rw [if_pos c6] at H
              have c6b0 : (a1 == (rd l0 x8_1)) = true := beq_iff_eq.mpr c6
              have c6b1 : (a1 != (rd l0 x8_1)) = false := bne_eq_false_iff_eq.mpr c6
              clear c6
              obtain rfl := Option.some.inj H
              have p135 : 0 ≤ (x8_1 : Int) := of_decide_eq_true (by first | (with_reducible assumption) | assumption)
              have q135 : x8_1 < (l0.length : Int) := of_decide_eq_true (by first | (with_reducible assumption) | assumption)
              obtain ⟨ad135, e135, hx135_0⟩ := Kd.at_int HR0.out x8_1 p135 q135
              cases e135
              replace p135 := eq_true p135
              replace q135 := eq_true q135
              go_wp2
              go_ret
              exact ⟨by first | rfl | (simp; done) | (simp [*]; done), by repeat (first | exact Drawn0.refl _ | apply Drawn0.step)⟩
            · rw [if_neg c6] at H
              have c6b0 : (a1 == (rd l0 x8_1)) = false := beq_eq_false_iff_ne.mpr c6
              have c6b1 : (a1 != (rd l0 x8_1)) = true := bne_iff_ne.mpr c6
              have H' := Aside0.mk H
              clear H
              have p135 : 0 ≤ (x8_1 : Int) := of_decide_eq_true (by first | (with_reducible assumption) | assumption)
              have q135 : x8_1 < (l0.length : Int) := of_decide_eq_true (by first | (with_reducible assumption) | assumption)
              obtain ⟨ad135, e135, hx135_0⟩ := Kd.at_int HR0.out x8_1 p135 q135
              cases e135
              replace p135 := eq_true p135
              replace q135 := eq_true q135
              go_wp2
              go_roundg k1
              case measure => have := HK1.out; omega
              case rel => exact ⟨(wrap64 (x8_1 + 1)), (by first | rfl | (simp; done) | (simp [*]; done)), H', ⟨by have := HK1.out; omega⟩, by repeat (first | exact Drawn0.refl _ | apply Drawn0.step)⟩
          · rw [if_neg c5] at H
            exact absurd H (by simp)
        · rw [if_neg c4] at H
          exact absurd H (by simp)
      · rw [if_neg c3] at H
        have c3b0 : decide (x8_1 < (l0.length : Int)) = false := decide_eq_false c3
        clear c3
        obtain rfl := Option.some.inj H
        go_wp2
        go_ret
        exact ⟨by first | rfl | (simp; done) | (simp [*]; done), by repeat (first | exact Drawn0.refl _ | apply Drawn0.step)⟩

/-! ### slices_Contains_byte_byte: function 48 -/
def slices_Contains_byte_byte.f (k : Nat) (l0 : List Int) (a1 : Int) : Option (Bool) := (slices_Index_byte_byte.f k l0 a1).bind fun t136 => (some (decide (t136 ≥ 0)))
theorem slices_Contains_byte_byte.mono : ∀ a0 a1 k, LeO (slices_Contains_byte_byte.f k a0 a1) (slices_Contains_byte_byte.f (k + 1) a0 a1) := by
  intro a0 a1 k
  unfold slices_Contains_byte_byte.f
  repeat' first
      | (with_reducible exact slices_Index_byte_byte.mono _ _ _)
      | (with_reducible exact LeO.refl _)
      | (with_reducible exact LeO.none _)
      | (with_reducible refine LeO.ite ?_ ?_)
      | (with_reducible refine LeO.bind ?_ (fun _ => ?_))
      | exact slices_Index_byte_byte.mono _ _ _
      | exact LeO.none _
      | refine LeO.ite ?_ ?_
      | refine LeO.bind ?_ (fun _ => ?_)
set_option maxHeartbeats 8000000 in
set_option maxRecDepth 100000 in
theorem slices_Contains_byte_byte.calls (k : Nat) (A0 : Option Addr) (c0 : Nat) (l0 : List Int) (a1 : Int) (r : Bool) (w : World) (hr0 : Kd.C (Kd.int .u8) w A0 l0.length l0) (hc0 : l0.length ≤ c0) (h : slices_Contains_byte_byte.f k l0 a1 = some r) :
    Calls Tryd.prog 48 #[.slice A0 l0.length c0, .int .u8 a1] w fun e w' => e = .returned (.bool r) ∧ Drawn0 w w' := by
  have HR0 := Aside0.mk hr0
  have HC0 := Aside0.mk hc0
  clear hr0 hc0
  have H : ((slices_Index_byte_byte.f k l0 a1).bind fun t136 => (some (decide (t136 ≥ 0)))) = some r := h
  clear h
  replace H := Option.bind_eq_some_iff.mp H
  obtain ⟨t136, A30, H⟩ := H
  replace H : (some (decide (t136 ≥ 0))) = some r := H
  have A3 := Aside0.mk A30
  clear A30
  obtain rfl := Option.some.inj H
  go_enter Tryd.func48, Tryd.ntmps48
  go_wp2_with (first | ((with_reducible refine gate_callee (f := 60) rfl ?_); refine goesL_ (some 7) rfl rfl Tryd.func60 (by kernel_rfl) rfl #[.slice A0 l0.length c0, .int .u8 a1] rfl (by (try simp only [List.map_toArray, List.map_cons, List.map_nil]); first | done | rfl | (simp only [List.length_drop, List.length_take]; rfl)) ?_; (with_reducible refine (slices_Index_byte_byte.calls k _ _ l0 a1 t136 _ ?side1 ?side2 A3.out).mono ?_); (case side1 => repeat (first | exact HR0.out | (with_reducible refine Kd.C_alloc ?_ _) | (with_reducible refine Kd.C_drewN ?_ _) | (with_reducible refine Kd.C_drew ?_))); (case side2 => exact HC0.out); rintro e w' ⟨rfl, ⟨nd, rfl⟩⟩; refine ⟨_, rfl, ?_⟩))
  go_ret
  exact ⟨by first | rfl | (simp; done) | (simp [*]; done), by repeat (first | exact Drawn0.refl _ | apply Drawn0.step)⟩

-- NOT PRINTED: function 26 (spec_Network)

-- NOT PRINTED: function 7 (laws_FnServerNetwork)

end Go.Proofs.YtipkpgmgjdfgoaaDoor.ZC
