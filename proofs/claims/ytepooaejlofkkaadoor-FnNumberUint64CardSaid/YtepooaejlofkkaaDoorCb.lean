/- converters.compareBytes: the order of two rows of bytes; the least of two lengths by way of doubles. -/
import Derived.Test.YtepooaejlofkkaaDoorProg
import Derived.Test.YtepooaejlofkkaaDoorKit
import Derived.Laws.FloatArith
import Derived.Laws.Externs
import GoSem.Extern.MathDim
namespace Go.Proofs.YtepooaejlofkkaaDoor.X
open Go
open Ieee
def fltB (n : Nat) : Bool :=
  (match FloatKind.f64.decode (floatOfInt .f64 n) with
    | .number false m e => decide (-1074 ≤ e) && (m * 2 ^ (e + 1074).toNat == n * 2 ^ 1074) && (m == 0) == (n == 0)
    | _ => false) && (floatToIntVal .f64 (floatOfInt .f64 n) .i64 == some (n : Int))
theorem big_pos : 0 < 2 ^ 1074 := by decide +kernel
theorem flt_all : (List.range 2001).all fltB = true := by decide +kernel
theorem flt_ok {n : Nat} (h : n ≤ 2000) : (∃ m e, FloatKind.f64.decode (floatOfInt .f64 n) = .number false m e ∧ -1074 ≤ e ∧ m * 2 ^ (e + 1074).toNat = n * 2 ^ 1074) ∧ floatToIntVal .f64 (floatOfInt .f64 n) .i64 = some (n : Int) := by
  have h1 := List.all_eq_true.1 flt_all n (List.mem_range.2 (by omega))
  unfold fltB at h1
  rw [Bool.and_eq_true] at h1
  refine ⟨?_, by simpa using h1.2⟩
  have h2 := h1.1
  split at h2
  · rename_i m e he
    simp only [Bool.and_eq_true, decide_eq_true_eq, beq_iff_eq] at h2
    exact ⟨m, e, he, h2.1.1, h2.1.2⟩
  · cases h2
theorem flt_order {i j : Nat} (hi : i ≤ 2000) (hj : j ≤ 2000) : (FloatKind.f64.decode (floatOfInt .f64 i)).order (FloatKind.f64.decode (floatOfInt .f64 j)) = some (compare i j) := by
  obtain ⟨⟨m, e, h1, h2, h3⟩, _⟩ := flt_ok hi
  obtain ⟨⟨n, f, k1, k2, k3⟩, _⟩ := flt_ok hj
  rw [h1, k1]
  unfold Datum.order
  simp only [signed, Bool.false_eq_true, if_false, Nat.shiftLeft_eq]
  have hb1 : -1074 ≤ min e f := by omega
  obtain ⟨b, hb⟩ := Int.eq_ofNat_of_zero_le (show 0 ≤ min e f + 1074 by omega)
  have he : (e + 1074).toNat = (e - min e f).toNat + b := by omega
  have hf : (f + 1074).toNat = (f - min e f).toNat + b := by omega
  rw [he, Nat.pow_add, ← Nat.mul_assoc] at h3
  rw [hf, Nat.pow_add, ← Nat.mul_assoc] at k3
  generalize m * 2 ^ (e - min e f).toNat = x at *
  generalize n * 2 ^ (f - min e f).toNat = y at *
  have p1 : 0 < 2 ^ b := Nat.two_pow_pos _
  have p2 := big_pos
  generalize 2 ^ b = B at *
  generalize 2 ^ 1074 = C at *
  congr 1
  rcases Nat.lt_trichotomy i j with h | h | h
  · have : x * B < y * B := by rw [h3, k3]; exact Nat.mul_lt_mul_of_pos_right h p2
    have := Nat.lt_of_mul_lt_mul_right this
    rw [Nat.compare_eq_lt.2 h]
    exact Int.compare_eq_lt.2 (by omega)
  · subst h
    have : x * B = y * B := by rw [h3, k3]
    have := Nat.eq_of_mul_eq_mul_right p1 this
    rw [Nat.compare_eq_eq.2 rfl]
    exact Int.compare_eq_eq.2 (by omega)
  · have : y * B < x * B := by rw [h3, k3]; exact Nat.mul_lt_mul_of_pos_right h p2
    have := Nat.lt_of_mul_lt_mul_right this
    rw [Nat.compare_eq_gt.2 h]
    exact Int.compare_eq_gt.2 (by omega)
theorem pick_eq (s : String) (x y : Nat) (E N : Nat) (hE : FloatKind.f64.encode (.infinity true) = E) (hN : 0x7FF8000000000001 = N) : Extern.MathDim.pick s true .lt #[.float .f64 x, .float .f64 y] = pure (.float .f64 (if FloatKind.f64.decode x == .infinity true || FloatKind.f64.decode y == .infinity true then E else if (FloatKind.f64.decode x).isNaN || (FloatKind.f64.decode y).isNaN then N else if (FloatKind.f64.decode x).isZero && (FloatKind.f64.decode y).isZero then (if (FloatKind.f64.decode x).neg == true then x else y) else if (FloatKind.f64.decode x).order (FloatKind.f64.decode y) == some .lt then x else y)) := by
  subst hE; subst hN
  rfl
theorem pick_num (m n : Nat) (e f : Int) (x y E N : Nat) (a b : Datum) (ha : a = .number false m e) (hb : b = .number false n f) : (if a == .infinity true || b == .infinity true then E else if a.isNaN || b.isNaN then N else if a.isZero && b.isZero then (if a.neg == true then x else y) else if a.order b == some .lt then x else y) = (if a.isZero && b.isZero then y else if a.order b == some .lt then x else y) := by
  subst ha; subst hb
  rfl
theorem flt_min {i j : Nat} (hi : i ≤ 2000) (hj : j ≤ 2000) (s : String) : Extern.MathDim.pick s true .lt #[.float .f64 (floatOfInt .f64 i), .float .f64 (floatOfInt .f64 j)] = pure (.float .f64 (floatOfInt .f64 (min i j : Nat))) := by
  have ho := flt_order hi hj
  obtain ⟨⟨m, e, h1, h2, h3⟩, _⟩ := flt_ok hi
  obtain ⟨⟨n, f, k1, k2, k3⟩, _⟩ := flt_ok hj
  rw [pick_eq s _ _ _ _ rfl rfl, pick_num m n e f _ _ _ _ _ _ h1 k1, ho]
  clear ho
  by_cases hij : i < j
  · have hz : (FloatKind.f64.decode (floatOfInt .f64 j)).isZero = false := by
      rw [k1]
      cases n with
      | zero =>
        exfalso
        rw [Nat.zero_mul] at k3
        generalize hC : 2 ^ 1074 = C at k3
        rcases Nat.mul_eq_zero.1 k3.symm with h | h
        · omega
        · exact absurd (hC.trans h) (Nat.ne_of_gt big_pos)
      | succ n => rfl
    rw [hz, Bool.and_false, if_neg Bool.false_ne_true, Nat.compare_eq_lt.2 hij, if_pos (beq_self_eq_true _), Nat.min_eq_left (by omega)]
  · have hc : (some (compare i j) == some Ordering.lt) = false := by
      rw [beq_eq_false_iff_ne]
      intro h
      exact hij (Nat.compare_eq_lt.1 (Option.some.inj h))
    rw [hc, if_neg Bool.false_ne_true, ite_self, Nat.min_eq_right (by omega)]
end Go.Proofs.YtepooaejlofkkaaDoor.X
namespace Go.Proofs.YtepooaejlofkkaaDoor.X
open Go.RowKit Go.Proofs.YtepooaejlofkkaaDoorW.PrintWords Go.Proofs.YtepooaejlofkkaaDoorW.PrintMore
attribute [local go_sem] setCell_drewN alloc_drewN
set_option linter.unusedVariables false
set_option linter.unusedSimpArgs false

/-- The order of two lists. -/
def cmpI : List Int → List Int → Int
  | [], [] => 0
  | [], _ :: _ => -1
  | _ :: _, [] => 1
  | a :: xs, b :: ys => if a < b then -1 else if b < a then 1 else cmpI xs ys
theorem cmpI_at : ∀ (b : Nat) (l m : List Int), (∀ i, i < b → l.getD i 0 = m.getD i 0) → b < l.length → b < m.length → ¬ l.getD b 0 = m.getD b 0 → cmpI l m = if l.getD b 0 < m.getD b 0 then -1 else 1
  | b, [], _, _, hl, _, _ => absurd hl (Nat.not_lt_zero _)
  | b, _ :: _, [], _, _, hm, _ => absurd hm (Nat.not_lt_zero _)
  | 0, a :: xs, c :: ys, _, _, _, hne => by
    have hne' : ¬ a = c := hne
    simp only [cmpI]
    show _ = if a < c then -1 else 1
    by_cases h : a < c
    · rw [if_pos h, if_pos h]
    · rw [if_neg h, if_neg h, if_pos (by omega)]
  | b + 1, a :: xs, c :: ys, h, hl, hm, hne => by
    have e : a = c := h 0 (by omega)
    have := cmpI_at b xs ys (fun i hi => by have := h (i + 1) (by omega); simpa using this) (by simpa using hl) (by simpa using hm) (by simpa using hne)
    simp only [cmpI]
    rw [if_neg (by omega), if_neg (by omega), this]
    simp
theorem cmpI_end : ∀ (l m : List Int), (∀ i, i < min l.length m.length → l.getD i 0 = m.getD i 0) → cmpI l m = if l.length = m.length then 0 else if m.length < l.length then 1 else -1
  | [], [], _ => by simp [cmpI]
  | [], _ :: _, _ => by simp [cmpI]
  | _ :: _, [], _ => by simp [cmpI]
  | a :: xs, c :: ys, h => by
    have e : a = c := h 0 (by simp)
    have := cmpI_end xs ys (fun i hi => by have := h (i + 1) (by simp only [List.length_cons]; omega); simpa using this)
    simp only [cmpI]
    rw [if_neg (by omega), if_neg (by omega), this]
    simp only [List.length_cons, Nat.add_right_cancel_iff, Nat.add_lt_add_iff_right]
theorem and255 (x : Int) (h : 0 ≤ x ∧ x ≤ 255) : Go.bits .and .u8 x 255 = x := by
  have : ∀ n : Nat, n < 256 → Go.bits .and .u8 (n : Int) 255 = (n : Int) := by decide +kernel
  obtain ⟨n, rfl⟩ := Int.eq_ofNat_of_zero_le h.1
  exact this n (by omega)
set_option maxHeartbeats 2000000 in
set_option maxRecDepth 100000 in
theorem mathMin (i j : Nat) (hi : i ≤ 2000) (hj : j ≤ 2000) (w : World) :
    Calls Tryd.prog 54 #[.float .f64 (floatOfInt .f64 i), .float .f64 (floatOfInt .f64 j)] w fun e w' => e = .returned (.float .f64 (floatOfInt .f64 (min i j : Nat))) ∧ w' = w := by
  have hp := Lib.hid (flt_min hi hj "math.archMin")
  generalize floatOfInt .f64 (min i j : Nat) = z at *
  generalize floatOfInt .f64 i = x at *
  generalize floatOfInt .f64 j = y at *
  go_enter Tryd.func54, Tryd.ntmps54
  go_wp2_with fail
  rw [run_callFunc_extern Tryd.func64 (by kernel_rfl) (by kernel_rfl) (by kernel_rfl) (e := Extern.MathDim.pick "math.archMin" true .lt) (by kernel_rfl), hp.out]
  simp only [Result.andThen, Sem.run_pure]
  rw [Oper.upon_value]
  go_wp2
  go_ret
  exact ⟨rfl, rfl⟩
set_option maxHeartbeats 4000000 in
set_option maxRecDepth 100000 in
theorem compareBytes_row (A B : Option Addr) (c d : Nat) (l m : List Int) (w : World) (hA : Kd.C (Kd.int .u8) w A l.length l) (hB : Kd.C (Kd.int .u8) w B m.length m) (hl : l.length ≤ 2000) (hm : m.length ≤ 2000) (bl : Byt l) (bm : Byt m) :
    Calls Tryd.prog 46 #[.slice A l.length c, .slice B m.length d] w fun e w' => e = .returned (.int .i64 (cmpI l m)) ∧ Drawn0 w w' := by
  have HM := Lib.hid (fun W => mathMin l.length m.length hl hm W)
  obtain ⟨K, hK⟩ : ∃ K, K = min l.length m.length := ⟨_, rfl⟩
  have hcv : ∀ W : World, (convert 74 3 (.float .f64 (floatOfInt .f64 (K : Nat)))).run Tryd.prog W = .ok (.int .i64 K) W := fun W =>
    run_convert_float_int W 74 3 .f64 .i64 _ K (by kernel_rfl) (by kernel_rfl) (flt_ok (n := K) (by omega)).2
  rw [← hK] at HM
  generalize floatOfInt .f64 (K : Nat) = z at *
  have HA := Lib.hid hA
  have HB := Lib.hid hB
  have HAT := Lib.hid (cmpI_at · l m)
  have HEND := Lib.hid (cmpI_end l m)
  have HBL := Lib.hid bl
  have HBM := Lib.hid bm
  have HKm := Lib.hid hK
  clear hA hB bl bm
  generalize cmpI l m = res at *
  go_enter Tryd.func46, Tryd.ntmps46
  go_wp2_with fail
  refine (HM.out w).mono ?_
  rintro e w' ⟨rfl, rfl⟩
  go_wp2
  go_loop [7] (fun v7 => ∃ b : Nat, b ≤ K ∧ v7 = .int .i64 b ∧ ∀ i, i < b → l.getD i 0 = m.getD i 0) (fun v7 => K - (intOf v7).toNat)
  case atStart => exact ⟨0, Nat.zero_le _, rfl, fun i hi => absurd hi (Nat.not_lt_zero i)⟩
  case round =>
    obtain ⟨b, hb, rfl, hsame⟩ := hrel
    have HS := Lib.hid hsame
    clear hsame
    have hKm := HKm.out
    have hKl : K ≤ l.length := by omega
    have hKm' : K ≤ m.length := by omega
    clear hKm
    by_cases hlt : b < K
    · obtain ⟨g, o, rfl, _, hc⟩ := C_base HA.out (by omega)
      obtain ⟨g', o', rfl, _, hc'⟩ := C_base HB.out (by omega)
      have x0 := hc b (by omega)
      have y0 := hc' b (by omega)
      have hx := HBL.out.get b
      have hy := HBM.out.get b
      have hat := HAT.out b HS.out (by omega) (by omega)
      have hne := HS.out
      have HS2 : Hid (l.getD b 0 = m.getD b 0 → ∀ i, i < b + 1 → l.getD i 0 = m.getD i 0) := Lib.hid fun e i hi => by
        by_cases h : i < b
        · exact HS.out i h
        · obtain rfl : i = b := by omega
          exact e
      clear hc hc' hne
      generalize l.getD b 0 = x at *
      generalize m.getD b 0 = y at *
      have hxa := and255 x hx
      have hya := and255 y hy
      have hbl : (b : Int) < l.length := by omega
      have hbm : (b : Int) < m.length := by omega
      by_cases hxy : x = y
      · subst hxy
        clear hat
        go_wp2
        go_round
        case rel => exact ⟨b + 1, by omega, by go_num, HS2.out rfl⟩
        case measure => simp [intOf]; omega
      · have hat' := hat hxy
        by_cases hless : x < y
        · rw [if_pos hless] at hat'
          have hne : (x != y) = true := by rw [bne_iff_ne]; exact hxy
          clear hat
          go_wp2
          go_ret
          exact ⟨by first | rfl | (rw [hat']; rfl), Drawn0.refl _⟩
        · rw [if_neg hless] at hat'
          have hne : (x != y) = true := by rw [bne_iff_ne]; exact hxy
          clear hat
          go_wp2
          go_ret
          exact ⟨by first | rfl | (rw [hat']; rfl), Drawn0.refl _⟩
    · obtain rfl : b = K := by omega
      have hend := HEND.out (fun i hi => HS.out i (by have := HKm.out; omega))
      rcases Nat.lt_trichotomy l.length m.length with h | h | h
      · rw [if_neg (by omega), if_neg (by omega)] at hend
        have e1 : ((l.length : Int) == m.length) = false := by rw [beq_eq_false_iff_ne]; omega
        have e2 : ¬ (m.length : Int) < l.length := by omega
        go_wp2
        go_ret
        exact ⟨by first | rfl | (rw [hend]; rfl), Drawn0.refl _⟩
      · rw [if_pos h] at hend
        have e1 : ((l.length : Int) == m.length) = true := by rw [beq_iff_eq]; omega
        go_wp2
        go_ret
        exact ⟨by first | rfl | (rw [hend]; rfl), Drawn0.refl _⟩
      · rw [if_neg (by omega), if_pos h] at hend
        have e1 : ((l.length : Int) == m.length) = false := by rw [beq_eq_false_iff_ne]; omega
        have e2 : (m.length : Int) < l.length := by omega
        go_wp2
        go_ret
        exact ⟨by first | rfl | (rw [hend]; rfl), Drawn0.refl _⟩
def converters_compareBytes.f (l0 l1 : List Int) : Option Int := if l0.length ≤ 2000 ∧ l1.length ≤ 2000 then (if Byt l0 ∧ Byt l1 then some (cmpI l0 l1) else none) else none
theorem converters_compareBytes.calls (A0 : Option Addr) (c0 : Nat) (l0 : List Int) (A1 : Option Addr) (c1 : Nat) (l1 : List Int) (r : Int) (w : World) (hr0 : Kd.C (Kd.int .u8) w A0 l0.length l0) (hc0 : l0.length ≤ c0) (hr1 : Kd.C (Kd.int .u8) w A1 l1.length l1) (hc1 : l1.length ≤ c1) (h : converters_compareBytes.f l0 l1 = some r) :
    Calls Tryd.prog 46 #[.slice A0 l0.length c0, .slice A1 l1.length c1] w fun e w' => e = .returned (.int .i64 r) ∧ Drawn0 w w' := by
  unfold converters_compareBytes.f at h
  split at h
  · rename_i h1
    split at h
    · rename_i h2
      obtain rfl := Option.some.inj h
      exact compareBytes_row A0 A1 c0 c1 l0 l1 w hr0 hr1 h1.1 h1.2 h2.1 h2.2
    · cases h
  · cases h
end Go.Proofs.YtepooaejlofkkaaDoor.X
