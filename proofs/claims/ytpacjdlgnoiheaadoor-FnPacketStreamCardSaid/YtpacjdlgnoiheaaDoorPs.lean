/- spec.PacketGet: the kit's print of it, its part of the row under a letter. -/
import Derived.Test.YtpacjdlgnoiheaaDoorPw
namespace Go.Proofs.YtpacjdlgnoiheaaDoor.X
open Go.RowKit Go.Proofs.YtpacjdlgnoiheaaDoorW.PrintWords Go.Proofs.YtpacjdlgnoiheaaDoorW.PrintLast Go.Proofs.YtpacjdlgnoiheaaDoorW.PrintMore
attribute [local go_sem] max2_int min2_int max_two min_two max_three min_three max_four min_four
set_option linter.unusedVariables false
set_option linter.unusedSimpArgs false

/-! ### spec_PacketGet: function 14 -/
def spec_PacketGet.l0 : Nat → Int → List Int → Int → Int → Option (Int)
  | 0, _, _, _, _ => none
  | k + 1, x7, x15, x16, x17 => if x17 < x16 then (if 0 ≤ x17 then (if x17 < (x15.length : Int) then (spec_PacketGet.l0 k (Go.bits .or .u64 (IntKind.u64.wrap (x7 * 256)) (IntKind.u64.wrap (rd x15 x17))) x15 x16 (wrap64 (x17 + 1))) else (none)) else (none)) else (some x7)
def spec_PacketGet.f (k : Nat) (l0 : List Int) (a1 : Int) (a2 : Int) : Option (Int) := if 0 ≤ a1 then (if a1 ≤ (wrap64 (a1 + a2)) then (if (wrap64 (a1 + a2)) ≤ (l0.length : Int) then (spec_PacketGet.l0 k 0 ((l0.take ((wrap64 (a1 + a2)) : Int).toNat).drop (a1 : Int).toNat) (((l0.take ((wrap64 (a1 + a2)) : Int).toNat).drop (a1 : Int).toNat).length : Int) 0) else (none)) else (none)) else (none)
theorem spec_PacketGet.mono_l : ∀ k, (∀ y0 y1 y2 y3, LeO (spec_PacketGet.l0 k y0 y1 y2 y3) (spec_PacketGet.l0 (k + 1) y0 y1 y2 y3))
  | 0 => fun _ _ _ _ r h => by simp [spec_PacketGet.l0] at h
  | k + 1 => by
    have ih0 := spec_PacketGet.mono_l k
    · intro y0 y1 y2 y3
      unfold spec_PacketGet.l0
      repeat' first
      | (with_reducible exact ih0 _ _ _ _)
      | (with_reducible exact LeO.refl _)
      | (with_reducible exact LeO.none _)
      | (with_reducible refine LeO.ite ?_ ?_)
      | (with_reducible refine LeO.bind ?_ (fun _ => ?_))
      | exact ih0 _ _ _ _
      | exact LeO.none _
      | refine LeO.ite ?_ ?_
      | refine LeO.bind ?_ (fun _ => ?_)
theorem spec_PacketGet.mono : ∀ a0 a1 a2 k, LeO (spec_PacketGet.f k a0 a1 a2) (spec_PacketGet.f (k + 1) a0 a1 a2) := by
  intro a0 a1 a2 k
  have ih0 := spec_PacketGet.mono_l k
  unfold spec_PacketGet.f
  repeat' first
      | (with_reducible exact ih0 _ _ _ _)
      | (with_reducible exact LeO.refl _)
      | (with_reducible exact LeO.none _)
      | (with_reducible refine LeO.ite ?_ ?_)
      | (with_reducible refine LeO.bind ?_ (fun _ => ?_))
      | exact ih0 _ _ _ _
      | exact LeO.none _
      | refine LeO.ite ?_ ?_
      | refine LeO.bind ?_ (fun _ => ?_)
set_option maxHeartbeats 8000000 in
set_option maxRecDepth 100000 in
theorem spec_PacketGet.calls (k : Nat) (A0 : Option Addr) (c0 : Nat) (l0 : List Int) (a1 : Int) (a2 : Int) (r : Int) (w : World) (hr0 : Kd.C (Kd.int .u8) w A0 l0.length l0) (hc0 : l0.length ≤ c0) (h : spec_PacketGet.f k l0 a1 a2 = some r) :
    Calls Tryd.prog 14 #[.slice A0 l0.length c0, .int .i64 a1, .int .i64 a2] w fun e w' => e = .returned (.int .u64 r) ∧ Drawn0 w w' := by
  have HR0 := Aside0.mk hr0
  have HC0 := Aside0.mk hc0
  clear hr0 hc0
  have H : (if 0 ≤ a1 then (if a1 ≤ (wrap64 (a1 + a2)) then (if (wrap64 (a1 + a2)) ≤ (l0.length : Int) then (spec_PacketGet.l0 k 0 ((l0.take ((wrap64 (a1 + a2)) : Int).toNat).drop (a1 : Int).toNat) (((l0.take ((wrap64 (a1 + a2)) : Int).toNat).drop (a1 : Int).toNat).length : Int) 0) else (none)) else (none)) else (none)) = some r := h
  clear h
  by_cases c4 : 0 ≤ a1
  · rw [if_pos c4] at H
    have c4b0 := eq_true c4
    have c4b1 : decide (0 ≤ a1) = true := decide_eq_true c4
    clear c4
    by_cases c5 : a1 ≤ (wrap64 (a1 + a2))
    · rw [if_pos c5] at H
      have c5b0 := eq_true c5
      have c5b1 : decide (a1 ≤ (wrap64 (a1 + a2))) = true := decide_eq_true c5
      by_cases c6 : (wrap64 (a1 + a2)) ≤ (l0.length : Int)
      · rw [if_pos c6] at H
        have c6b0 := eq_true c6
        have c6b1 : decide ((wrap64 (a1 + a2)) ≤ (l0.length : Int)) = true := decide_eq_true c6
        have H' := Aside0.mk H
        clear H
        obtain ⟨i07, hi07, _, hsz7, _⟩ := info_parts info5x
        obtain ⟨A7, hcut7, hA7, hC7⟩ := print_mid_of (P := Tryd.prog) (Value.int .u8) 0 24 5 .i64 .i64 Tryd.underlying24 hi07 hsz7 A0 c0 l0 a1 (wrap64 (a1 + a2)) (of_decide_eq_true (by first | (with_reducible assumption) | assumption)) (by first | omega | exact of_decide_eq_true (by first | (with_reducible assumption) | assumption)) (of_decide_eq_true (by first | (with_reducible assumption) | assumption)) HC0.out
        have HR101 := Aside0.mk (Kd.C_of_reads (h1 := fun _ => rfl) (hA7 _ (Kd.reads_of_C HR0.out)))
        have HC101 := Aside0.mk hC7
        clear hA7 hC7 hi07 hsz7
        generalize ((l0.take ((wrap64 (a1 + a2)) : Int).toNat).drop (a1 : Int).toNat) = sl at *
        go_enter Tryd.func14, Tryd.ntmps14
        go_wp2
        go_loopg [7, 17] k (fun kq v7 v17 w' => ∃ (x7_1 : Int) (x17_1 : Int), v7 = .int .u64 x7_1 ∧ v17 = .int .i64 x17_1 ∧ Aside0 (spec_PacketGet.l0 kq x7_1 sl (sl.length : Int) x17_1 = some r) ∧ Aside0 (kq ≤ k) ∧ Drawn0 w w')
        case atStart => exact ⟨(0), (0), (by first | rfl | (simp; done) | (simp [*]; done)), (by first | rfl | (simp; done) | (simp [*]; done)), H', ⟨Nat.le_refl _⟩, by repeat (first | exact Drawn0.refl _ | apply Drawn0.step)⟩
        case round =>
          clear H'
          try clear c1
          try clear p2
          try clear c4
          try clear c4b0
          try clear c4b1
          try clear c5
          try clear c5b0
          try clear c5b1
          try clear c6
          try clear c6b0
          try clear c6b1
          try clear p6
          obtain ⟨x7_1, x17_1, rfl, rfl, HA, HK1, ⟨m1, rfl⟩⟩ := hrel
          cases gk with
          | zero => exact absurd HA.out (by simp [spec_PacketGet.l0])
          | succ k1 =>
            have H := HA.out
            clear HA
            simp only [spec_PacketGet.l0] at H
            by_cases c8 : x17_1 < (sl.length : Int)
            · rw [if_pos c8] at H
              have c8b0 : decide (x17_1 < (sl.length : Int)) = true := decide_eq_true c8
              clear c8
              by_cases c9 : 0 ≤ x17_1
              · rw [if_pos c9] at H
                have c9b0 : decide (0 ≤ x17_1) = true := decide_eq_true c9
                clear c9
                by_cases c10 : x17_1 < (sl.length : Int)
                · rw [if_pos c10] at H
                  have c10b0 : decide (x17_1 < (sl.length : Int)) = true := decide_eq_true c10
                  clear c10
                  have H' := Aside0.mk H
                  clear H
                  have p102 : 0 ≤ (x17_1 : Int) := of_decide_eq_true (by first | (with_reducible assumption) | assumption)
                  have q102 : x17_1 < (sl.length : Int) := of_decide_eq_true (by first | (with_reducible assumption) | assumption)
                  obtain ⟨ad102, e102, hx102_0⟩ := Kd.at_int HR101.out x17_1 p102 q102
                  cases e102
                  replace p102 := eq_true p102
                  replace q102 := eq_true q102
                  go_wp2
                  go_roundg k1
                  case measure => have := HK1.out; omega
                  case rel => exact ⟨(Go.bits .or .u64 (IntKind.u64.wrap (x7_1 * 256)) (IntKind.u64.wrap (rd sl x17_1))), (wrap64 (x17_1 + 1)), (by first | rfl | (simp; done) | (simp [*]; done)), (by first | rfl | (simp; done) | (simp [*]; done)), H', ⟨by have := HK1.out; omega⟩, by repeat (first | exact Drawn0.refl _ | apply Drawn0.step)⟩
                · rw [if_neg c10] at H
                  exact absurd H (by simp)
              · rw [if_neg c9] at H
                exact absurd H (by simp)
            · rw [if_neg c8] at H
              have c8b0 : decide (x17_1 < (sl.length : Int)) = false := decide_eq_false c8
              clear c8
              obtain rfl := Option.some.inj H
              go_wp2
              go_ret
              exact ⟨by first | rfl | (simp; done) | (simp [*]; done), by repeat (first | exact Drawn0.refl _ | apply Drawn0.step)⟩
      · rw [if_neg c6] at H
        exact absurd H (by simp)
    · rw [if_neg c5] at H
      exact absurd H (by simp)
  · rw [if_neg c4] at H
    exact absurd H (by simp)

end Go.Proofs.YtpacjdlgnoiheaaDoor.X
