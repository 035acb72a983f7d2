/- Readings where the input ends: the first one that is not well; two alike. -/
import Derived.Test.YtdnahdddkagfhaaDoorSj
namespace Go.Proofs.YtdnahdddkagfhaaDoor.X
open Go.RowKit Go.Proofs.YtdnahdddkagfhaaDoorW.PrintWords Go.Proofs.YtdnahdddkagfhaaDoorW.PrintMore
attribute [local go_sem] setCell_drewN alloc_drewN
set_option linter.unusedVariables false
set_option linter.unusedSimpArgs false
namespace Ses
theorem bytes_str : ∀ (l : List Int), Byt l → bytesOf (strOfNums l) = l
  | [], _ => rfl
  | x :: l, h => by
    have ih := bytes_str l (fun y hy => h y (by simp [hy]))
    have h0 := h x (by simp)
    unfold bytesOf strOfNums at ih ⊢
    simp only [List.map_cons, List.toList_toArray] at ih ⊢
    rw [ih]
    congr 1
    rw [UInt8.toNat_ofNat']
    have : x.toNat % 2 ^ 8 = x.toNat := Nat.mod_eq_of_lt (by omega)
    rw [this]
    omega
theorem eq_self (l : List Int) : bytes_Equal.f l l = some true := by
  unfold bytes_Equal.f
  rw [beq_self_eq_true]
theorem gt_cells {w : World} {p : Gt} {c : List Value} (h : gtKd.K w p c) : ∃ A cA B cB, c = [.bool p.ok, .slice A p.data.length cA, .slice B p.other.length cB, .int .i64 p.num, .string ⟨#[]⟩] ∧ p.data.length ≤ cA ∧ p.other.length ≤ cB ∧ Kd.C (Kd.int .u8) w A p.data.length p.data ∧ Kd.C (Kd.int .u8) w B p.other.length p.other := by
  obtain ⟨c0, d0, rfl, h0, c1, d1, rfl, ⟨A, cA, rfl, hA, hA2⟩, c2, d2, rfl, ⟨B, cB, rfl, hB, hB2⟩, c3, d3, rfl, h3, h4⟩ := h
  have e0 : c0 = [_] := h0
  have e3 : c3 = [_] := h3
  have e4 : d3 = [_] := h4
  subst e0; subst e3; subst e4
  exact ⟨A, cA, B, cB, rfl, hA, hB, hA2, hB2⟩
end Ses
set_option maxHeartbeats 4000000 in
set_option maxRecDepth 100000 in
theorem notOk_ok (ok : Bool) (A1 A2 : Option Addr) (l1 l2 c1 c2 : Nat) (n1 : Int) (w : World) :
    Calls Tryd.prog 33 #[.agg #[.bool ok, .slice A1 l1 c1, .slice A2 l2 c2, .int .i64 n1, .string ⟨#[]⟩]] w fun e w' => e = .returned (.bool (!ok)) ∧ Below w.heap.size w w' := by
  go_enter Tryd.func33, Tryd.ntmps33
  cases ok
  all_goals
    go_wp2
    go_ret
    exact ⟨rfl, below_alloc (Below.refl _ _) _⟩
set_option maxHeartbeats 4000000 in
set_option maxRecDepth 100000 in
theorem indexFunc_ok (xs : List Ses.Gt) (A : Option Addr) (cA n : Nat) (w : World) (hA : Ses.gtKd.C w A xs.length xs) (hx : xs.length = n + 1) (hok : ∀ j o, xs[j]? = some o → (j < n → o.ok = true) ∧ (j = n → o.ok = false)) :
    Calls Tryd.prog 32 #[.slice A (n + 1) cA, .func (.func 33) #[] #[]] w fun e w' => e = .returned (.int .i64 n) ∧ Below w.heap.size w w' := by
  have HA := Lib.hid hA
  have HX := Lib.hid hx
  have HO := Lib.hid hok
  obtain ⟨m, hm⟩ : ∃ m, m = n + 1 := ⟨_, rfl⟩
  rw [← hm] at hx HX ⊢
  have hmx := Kd.C_max hA
  rw [hx] at hmx
  have HM := Lib.hid hm
  clear hA hx hok hm
  go_enter Tryd.func32, Tryd.ntmps32
  go_wp2
  go_loopw [8] (fun v8 wr => ∃ j : Nat, v8 = .int .i64 j ∧ j ≤ n ∧ Hid (Below w.heap.size w wr)) (fun v8 _ => n - (intOf v8).toNat)
  case atStart => exact ⟨0, rfl, Nat.zero_le _, Lib.hid (Below.refl _ _)⟩
  case round =>
    obtain ⟨j, rfl, hj, HB⟩ := hrel
    have t2 : decide ((j : Int) < (m : Int)) = true := decide_eq_true (by have := HM.out; omega)
    have t3 : (0 : Int) ≤ (j : Int) := Int.natCast_nonneg _
    have t4 : (j : Int) < (m : Int) := by have := HM.out; omega
    have hx0 : xs[j]? = some (xs[j]'(by have := HX.out; have := HM.out; omega)) := List.getElem?_eq_getElem _
    generalize xs[j]'(by have := HX.out; have := HM.out; omega) = x at hx0
    obtain ⟨g0, o0, rfl, -, hel0⟩ := Kd.C_head (Kd.C_below HA.out HB.out) (by decide) (by have := HX.out; have := HM.out; omega)
    obtain ⟨cl0, -, hK0, hc0⟩ := hel0 j x hx0
    obtain ⟨A1, e1, A2, e2, rfl, le1, le2, C1, C2⟩ := Ses.gt_cells hK0
    have x0 : wr.cell? ⟨g0, o0 + j * 5, none⟩ = some (.bool x.ok) := hc0 0 _ rfl
    have x1 : wr.cell? ⟨g0, o0 + j * 5 + 1, none⟩ = some (.slice A1 x.data.length e1) := hc0 1 _ rfl
    have x2 : wr.cell? ⟨g0, o0 + j * 5 + 2, none⟩ = some (.slice A2 x.other.length e2) := hc0 2 _ rfl
    have x3 : wr.cell? ⟨g0, o0 + j * 5 + 3, none⟩ = some (.int .i64 x.num) := hc0 3 _ rfl
    have x4 : wr.cell? ⟨g0, o0 + j * 5 + 4, none⟩ = some (.string ⟨#[]⟩) := hc0 4 _ rfl
    obtain ⟨xk, xd, xo, xn⟩ := x
    obtain ⟨k1, k2⟩ := HO.out j _ hx0
    simp only at x0 x1 x2 x3 k1 k2
    obtain ⟨ld, hld⟩ : ∃ ld, ld = xd.length := ⟨_, rfl⟩
    obtain ⟨lo, hlo⟩ : ∃ lo, lo = xo.length := ⟨_, rfl⟩
    rw [← hld] at x1
    rw [← hlo] at x2
    have HK1 := Lib.hid k1
    have HK2 := Lib.hid k2
    clear hel0 hK0 hc0 C1 C2 le1 le2 hx0 hld hlo k1 k2
    by_cases hlt : j < n
    · have e : xk = true := HK1.out hlt
      subst e
      go_wp2_with (go_at_call 33; (with_reducible refine (notOk_ok true A1 A2 ld lo e1 e2 xn _).mono ?_); rintro e w4 ⟨rfl, hb4⟩; have HB4 := Lib.hid hb4; clear hb4)
      go_roundw
      case measure => simp [intOf]; omega
      case rel => exact ⟨j + 1, by go_num, by omega, Lib.hid (HB.out.trans (HB4.out.mono HB.out.size))⟩
    · have hjn : j = n := by omega
      have e : xk = false := HK2.out hjn
      subst e
      subst hjn
      go_wp2_with (go_at_call 33; (with_reducible refine (notOk_ok false A1 A2 ld lo e1 e2 xn _).mono ?_); rintro e w4 ⟨rfl, hb4⟩; have HB4 := Lib.hid hb4; clear hb4)
      go_ret
      exact ⟨rfl, HB.out.trans (HB4.out.mono HB.out.size)⟩
set_option maxHeartbeats 4000000 in
set_option maxRecDepth 100000 in
theorem sameGot_same (ok : Bool) (A1 A2 B1 B2 : Option Addr) (l1 l2 m1 m2 c1 c2 d1 d2 : Nat) (n1 : Int) (w : World)
    (h1 : ∀ W, Below w.heap.size w W → Calls Tryd.prog 19 #[.slice A1 l1 c1, .slice B1 m1 d1] W fun e w' => e = .returned (.bool true) ∧ Below W.heap.size W w')
    (h2 : ∀ W, Below w.heap.size w W → Calls Tryd.prog 19 #[.slice A2 l2 c2, .slice B2 m2 d2] W fun e w' => e = .returned (.bool true) ∧ Below W.heap.size W w') :
    Calls Tryd.prog 30 #[.agg #[.bool ok, .slice A1 l1 c1, .slice A2 l2 c2, .int .i64 n1, .string ⟨#[]⟩], .agg #[.bool ok, .slice B1 m1 d1, .slice B2 m2 d2, .int .i64 n1, .string ⟨#[]⟩]] w fun e w' => e = .returned (.bool true) ∧ Below w.heap.size w w' := by
  have H1 := Lib.hid h1
  have H2 := Lib.hid h2
  clear h1 h2
  obtain ⟨W0, hW0⟩ : ∃ W0, W0 = (w.alloc (.cells #[.bool ok, .slice A1 l1 c1, .slice A2 l2 c2, .int .i64 n1, .string ⟨#[]⟩] 38)).alloc (.cells #[.bool ok, .slice B1 m1 d1, .slice B2 m2 d2, .int .i64 n1, .string ⟨#[]⟩] 38) := ⟨_, rfl⟩
  have HB0 : Hid (Below w.heap.size w W0) := Lib.hid (by rw [hW0]; exact below_alloc (below_alloc (Below.refl _ _) _) _)
  have hz0 : W0.heap.size = w.heap.size + 2 := by rw [hW0, World.size_alloc, World.size_alloc]
  have ha : ∀ k, W0.cell? ⟨w.heap.size, k, none⟩ = (#[Value.bool ok, .slice A1 l1 c1, .slice A2 l2 c2, .int .i64 n1, .string ⟨#[]⟩])[k]? := fun k => by rw [hW0]; exact xb_cell (xb_alloc (xb_new _ _)) k
  have hb : ∀ k, W0.cell? ⟨w.heap.size + 1, k, none⟩ = (#[Value.bool ok, .slice B1 m1 d1, .slice B2 m2 d2, .int .i64 n1, .string ⟨#[]⟩])[k]? := fun k => by
    rw [hW0]
    have h := xb_cell (xb_new (w.alloc (.cells #[.bool ok, .slice A1 l1 c1, .slice A2 l2 c2, .int .i64 n1, .string ⟨#[]⟩] 38)) (.cells #[.bool ok, .slice B1 m1 d1, .slice B2 m2 d2, .int .i64 n1, .string ⟨#[]⟩] 38)) k
    rw [World.size_alloc] at h
    exact h
  have a0 := ha 0
  have a1 := ha 1
  have a2 := ha 2
  have a3 := ha 3
  have a4 := ha 4
  have b0 := hb 0
  have b1 := hb 1
  have b2 := hb 2
  have b3 := hb 3
  have b4 := hb 4
  clear ha hb
  simp only [List.getElem?_toArray, List.getElem?_cons_zero, List.getElem?_cons_succ] at a0 a1 a2 a3 a4 b0 b1 b2 b3 b4
  have t0 : (ok == ok) = true := beq_self_eq_true ok
  have t1 : decide (n1 = n1) = true := decide_eq_true rfl
  have t2 : (n1 == n1) = true := beq_iff_eq.2 rfl
  go_enter Tryd.func30, Tryd.ntmps30
  go_wp2_with fail
  rw [← hW0]
  go_wp2_with (first | (go_at_call 19; (with_reducible refine (H1.out _ HB0.out).mono ?_); rintro e w4 ⟨rfl, hb4⟩; have HB4 := Lib.hid (HB0.out.trans (hb4.mono HB0.out.size)); have p2 := bl_cell hb4 a2; have p3 := bl_cell hb4 a3; have p4 := bl_cell hb4 a4; have q2 := bl_cell hb4 b2; have q3 := bl_cell hb4 b3; have q4 := bl_cell hb4 b4; clear hb4 H1) | (go_at_call 19; (with_reducible refine (H2.out _ HB4.out).mono ?_); rintro e w5 ⟨rfl, hb5⟩; have HB5 := Lib.hid (HB4.out.trans (hb5.mono HB4.out.size)); have u3 := bl_cell hb5 p3; have u4 := bl_cell hb5 p4; have v3 := bl_cell hb5 q3; have v4 := bl_cell hb5 q4; clear hb5))
  go_ret
  exact ⟨rfl, HB5.out⟩
set_option maxHeartbeats 4000000 in
set_option maxRecDepth 100000 in
/-- Rows of readings that are the same. -/
theorem equalFunc_same (xs : List Ses.Gt) (A B : Option Addr) (cA cB n : Nat) (w : World) (hA : Ses.gtKd.C w A xs.length xs) (hB : Ses.gtKd.C w B xs.length xs) (hx : xs.length = n) :
    Calls Tryd.prog 29 #[.slice A n cA, .slice B n cB, .func (.func 30) #[] #[]] w fun e w' => e = .returned (.bool true) ∧ Below w.heap.size w w' := by
  have HA := Lib.hid hA
  have HC := Lib.hid hB
  have hmx := Kd.C_max hA
  rw [hx] at hmx
  have HX := Lib.hid hx
  clear hA hB hx
  go_enter Tryd.func29, Tryd.ntmps29
  go_wp2
  go_loopw [17] (fun v17 wr => ∃ j : Nat, v17 = .int .i64 j ∧ j ≤ n ∧ Hid (Below w.heap.size w wr)) (fun v17 _ => n - (intOf v17).toNat)
  case atStart => exact ⟨0, rfl, Nat.zero_le _, Lib.hid (Below.refl _ _)⟩
  case round =>
    obtain ⟨j, rfl, hj, HB⟩ := hrel
    by_cases hlt : j < n
    · have t2 : decide ((j : Int) < (n : Int)) = true := decide_eq_true (by omega)
      have t3 : (0 : Int) ≤ (j : Int) := Int.natCast_nonneg _
      have t4 : (j : Int) < (n : Int) := by omega
      have hx0 : xs[j]? = some (xs[j]'(by have := HX.out; omega)) := List.getElem?_eq_getElem _
      generalize xs[j]'(by have := HX.out; omega) = x at hx0
      obtain ⟨g0, o0, rfl, -, hel0⟩ := Kd.C_head (Kd.C_below HA.out HB.out) (by decide) (by have := HX.out; omega)
      obtain ⟨g1, o1, rfl, -, hel1⟩ := Kd.C_head (Kd.C_below HC.out HB.out) (by decide) (by have := HX.out; omega)
      obtain ⟨cl0, -, hK0, hc0⟩ := hel0 j x hx0
      obtain ⟨cl1, -, hK1, hc1⟩ := hel1 j x hx0
      obtain ⟨A1, e1, A2, e2, rfl, le1, le2, C1, C2⟩ := Ses.gt_cells hK0
      obtain ⟨B1, f1, B2, f2, rfl, lf1, lf2, D1, D2⟩ := Ses.gt_cells hK1
      have x0 : wr.cell? ⟨g0, o0 + j * 5, none⟩ = some (.bool x.ok) := hc0 0 _ rfl
      have x1 : wr.cell? ⟨g0, o0 + j * 5 + 1, none⟩ = some (.slice A1 x.data.length e1) := hc0 1 _ rfl
      have x2 : wr.cell? ⟨g0, o0 + j * 5 + 2, none⟩ = some (.slice A2 x.other.length e2) := hc0 2 _ rfl
      have x3 : wr.cell? ⟨g0, o0 + j * 5 + 3, none⟩ = some (.int .i64 x.num) := hc0 3 _ rfl
      have x4 : wr.cell? ⟨g0, o0 + j * 5 + 4, none⟩ = some (.string ⟨#[]⟩) := hc0 4 _ rfl
      have hc1a := fun i u h => cell_alloc (.cells #[.bool x.ok, .slice A1 x.data.length e1, .slice A2 x.other.length e2, .int .i64 x.num, .string ⟨#[]⟩] 38) (hc1 i u h)
      have y0 : (wr.alloc (.cells #[.bool x.ok, .slice A1 x.data.length e1, .slice A2 x.other.length e2, .int .i64 x.num, .string ⟨#[]⟩] 38)).cell? ⟨g1, o1 + j * 5, none⟩ = some (.bool x.ok) := hc1a 0 _ rfl
      have y1 : (wr.alloc (.cells #[.bool x.ok, .slice A1 x.data.length e1, .slice A2 x.other.length e2, .int .i64 x.num, .string ⟨#[]⟩] 38)).cell? ⟨g1, o1 + j * 5 + 1, none⟩ = some (.slice B1 x.data.length f1) := hc1a 1 _ rfl
      have y2 : (wr.alloc (.cells #[.bool x.ok, .slice A1 x.data.length e1, .slice A2 x.other.length e2, .int .i64 x.num, .string ⟨#[]⟩] 38)).cell? ⟨g1, o1 + j * 5 + 2, none⟩ = some (.slice B2 x.other.length f2) := hc1a 2 _ rfl
      have y3 : (wr.alloc (.cells #[.bool x.ok, .slice A1 x.data.length e1, .slice A2 x.other.length e2, .int .i64 x.num, .string ⟨#[]⟩] 38)).cell? ⟨g1, o1 + j * 5 + 3, none⟩ = some (.int .i64 x.num) := hc1a 3 _ rfl
      have y4 : (wr.alloc (.cells #[.bool x.ok, .slice A1 x.data.length e1, .slice A2 x.other.length e2, .int .i64 x.num, .string ⟨#[]⟩] 38)).cell? ⟨g1, o1 + j * 5 + 4, none⟩ = some (.string ⟨#[]⟩) := hc1a 4 _ rfl
      have HSm : Hid (∀ W : World, Below wr.heap.size wr W → Calls Tryd.prog 30 #[.agg #[.bool x.ok, .slice A1 x.data.length e1, .slice A2 x.other.length e2, .int .i64 x.num, .string ⟨#[]⟩], .agg #[.bool x.ok, .slice B1 x.data.length f1, .slice B2 x.other.length f2, .int .i64 x.num, .string ⟨#[]⟩]] W fun e w' => e = .returned (.bool true) ∧ Below W.heap.size W w') := Lib.hid (fun W hW => by
        refine sameGot_same x.ok A1 A2 B1 B2 _ _ _ _ e1 e2 f1 f2 x.num W (fun W2 hW2 => ?_) (fun W2 hW2 => ?_)
        · refine (bytes_Equal.calls A1 e1 x.data B1 f1 x.data _ W2 (Kd.C_below (Kd.C_below C1 hW) hW2) le1 (Kd.C_below (Kd.C_below D1 hW) hW2) lf1 (Ses.eq_self _)).mono ?_
          rintro e w' ⟨rfl, q, rfl⟩
          exact ⟨rfl, bl_drewN _ _⟩
        · refine (bytes_Equal.calls A2 e2 x.other B2 f2 x.other _ W2 (Kd.C_below (Kd.C_below C2 hW) hW2) le2 (Kd.C_below (Kd.C_below D2 hW) hW2) lf2 (Ses.eq_self _)).mono ?_
          rintro e w' ⟨rfl, q, rfl⟩
          exact ⟨rfl, bl_drewN _ _⟩)
      obtain ⟨xk, hxk⟩ : ∃ k, k = x.ok := ⟨_, rfl⟩
      obtain ⟨xd, hxd⟩ : ∃ k, k = x.data.length := ⟨_, rfl⟩
      obtain ⟨xo, hxo⟩ : ∃ k, k = x.other.length := ⟨_, rfl⟩
      obtain ⟨xn, hxn⟩ : ∃ k, k = x.num := ⟨_, rfl⟩
      clear hel0 hel1 hK0 hK1 hc0 hc1 hc1a C1 C2 D1 D2 hx0 le1 le2 lf1 lf2
      rw [← hxk] at x0
      rw [← hxd] at x1
      rw [← hxo] at x2
      rw [← hxn] at x3
      rw [← hxk, ← hxd, ← hxo, ← hxn] at y0 y1 y2 y3 y4 HSm
      clear hxk hxd hxo hxn
      have HW : Hid (Below wr.heap.size wr ((wr.alloc (.cells #[.bool xk, .slice A1 xd e1, .slice A2 xo e2, .int .i64 xn, .string ⟨#[]⟩] 38)).alloc (.cells #[.bool xk, .slice B1 xd f1, .slice B2 xo f2, .int .i64 xn, .string ⟨#[]⟩] 38))) := Lib.hid (below_alloc (below_alloc (Below.refl _ _) _) _)
      go_wp2_with (go_at_call 30; (with_reducible refine (HSm.out _ HW.out).mono ?_); rintro e w4 ⟨rfl, hb4⟩; have HB4 := Lib.hid (HW.out.trans (hb4.mono HW.out.size)); clear hb4)
      go_roundw
      case measure => simp [intOf]; omega
      case rel => exact ⟨j + 1, by go_num, by omega, Lib.hid (HB.out.trans (HB4.out.mono HB.out.size))⟩
    · have hjn : j = n := by omega
      have t2 : decide ((j : Int) < (n : Int)) = false := decide_eq_false (by omega)
      go_wp2
      go_ret
      exact ⟨rfl, HB.out⟩
end Go.Proofs.YtdnahdddkagfhaaDoor.X
