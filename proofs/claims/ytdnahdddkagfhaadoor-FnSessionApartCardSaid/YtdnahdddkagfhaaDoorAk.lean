/- sameGot, and slices.EqualFunc over it. -/
import Derived.Test.YtdnahdddkagfhaaDoorAj
namespace Go.Proofs.YtdnahdddkagfhaaDoor.X
open Go.RowKit Go.Proofs.YtdnahdddkagfhaaDoorW.PrintWords Go.Proofs.YtdnahdddkagfhaaDoorW.PrintMore
attribute [local go_sem] setCell_drewN alloc_drewN
set_option linter.unusedVariables false
set_option linter.unusedSimpArgs false
namespace Ses
theorem bytes_str : ∀ (l : List Int), Byt l → bytesOf (strOfNums l) = l
  | [], _ => rfl
  | x :: l, h => by
    have ih := bytes_str l (fun y hy => h y (by simp [hy]))
    have h0 := h x (by simp)
    unfold bytesOf strOfNums at ih ⊢
    simp only [List.map_cons, List.toList_toArray] at ih ⊢
    rw [ih]
    congr 1
    rw [UInt8.toNat_ofNat']
    have : x.toNat % 2 ^ 8 = x.toNat := Nat.mod_eq_of_lt (by omega)
    rw [this]
    omega
theorem str_beq (x y : ByteArray) : (x.toList == y.toList) = decide (x = y) := by
  rw [ByteArray.toList_eq, ByteArray.toList_eq]
  by_cases h : x = y
  · subst h; simp
  · rw [decide_eq_false h]
    refine beq_eq_false_iff_ne.2 (fun e => h ?_)
    cases x
    cases y
    congr
    exact Array.toList_inj.1 e
theorem eq_f {l m : List Int} (hl : Byt l) (hm : Byt m) : bytes_Equal.f l m = some (decide (l = m)) := by
  unfold bytes_Equal.f
  rw [str_beq]
  congr 1
  exact decide_eq_decide.2 ⟨fun h => by rw [← bytes_str l hl, ← bytes_str m hm, h], fun h => by rw [h]⟩
theorem gt_cells {w : World} {p : Gt} {c : List Value} (h : gtKd.K w p c) : ∃ A cA B cB, c = [.bool p.ok, .slice A p.data.length cA, .slice B p.other.length cB, .int .i64 p.num, .string ⟨#[]⟩] ∧ p.data.length ≤ cA ∧ p.other.length ≤ cB ∧ Kd.C (Kd.int .u8) w A p.data.length p.data ∧ Kd.C (Kd.int .u8) w B p.other.length p.other := by
  obtain ⟨c0, d0, rfl, h0, c1, d1, rfl, ⟨A, cA, rfl, hA, hA2⟩, c2, d2, rfl, ⟨B, cB, rfl, hB, hB2⟩, c3, d3, rfl, h3, h4⟩ := h
  have e0 : c0 = [_] := h0
  have e3 : c3 = [_] := h3
  have e4 : d3 = [_] := h4
  subst e0; subst e3; subst e4
  exact ⟨A, cA, B, cB, rfl, hA, hB, hA2, hB2⟩
/-- Two readings are the same. -/
def sm (a b : Gt) : Bool := decide (a.data = b.data) && decide (a.other = b.other) && decide (a.num = b.num)
end Ses
set_option maxHeartbeats 4000000 in
set_option maxRecDepth 100000 in
theorem sameGot_ok (A1 A2 B1 B2 : Option Addr) (l1 l2 m1 m2 c1 c2 d1 d2 : Nat) (n1 n2 : Int) (q1 q2 : Bool) (w : World)
    (h1 : ∀ W, Below w.heap.size w W → Calls Tryd.prog 19 #[.slice A1 l1 c1, .slice B1 m1 d1] W fun e w' => e = .returned (.bool q1) ∧ Below W.heap.size W w')
    (h2 : ∀ W, Below w.heap.size w W → Calls Tryd.prog 19 #[.slice A2 l2 c2, .slice B2 m2 d2] W fun e w' => e = .returned (.bool q2) ∧ Below W.heap.size W w') :
    Calls Tryd.prog 30 #[.agg #[.bool true, .slice A1 l1 c1, .slice A2 l2 c2, .int .i64 n1, .string ⟨#[]⟩], .agg #[.bool true, .slice B1 m1 d1, .slice B2 m2 d2, .int .i64 n2, .string ⟨#[]⟩]] w fun e w' => e = .returned (.bool (q1 && q2 && decide (n1 = n2))) ∧ Below w.heap.size w w' := by
  have H1 := Lib.hid h1
  have H2 := Lib.hid h2
  obtain ⟨r, hr⟩ : ∃ r, r = (q1 && q2 && decide (n1 = n2)) := ⟨_, rfl⟩
  rw [← hr]
  have HR := Lib.hid hr
  clear h1 h2 hr
  obtain ⟨W0, hW0⟩ : ∃ W0, W0 = (w.alloc (.cells #[.bool true, .slice A1 l1 c1, .slice A2 l2 c2, .int .i64 n1, .string ⟨#[]⟩] 38)).alloc (.cells #[.bool true, .slice B1 m1 d1, .slice B2 m2 d2, .int .i64 n2, .string ⟨#[]⟩] 38) := ⟨_, rfl⟩
  have HB0 : Hid (Below w.heap.size w W0) := Lib.hid (by rw [hW0]; exact below_alloc (below_alloc (Below.refl _ _) _) _)
  have hz0 : W0.heap.size = w.heap.size + 2 := by rw [hW0, World.size_alloc, World.size_alloc]
  have ha : ∀ k, W0.cell? ⟨w.heap.size, k, none⟩ = (#[Value.bool true, .slice A1 l1 c1, .slice A2 l2 c2, .int .i64 n1, .string ⟨#[]⟩])[k]? := fun k => by rw [hW0]; exact xb_cell (xb_alloc (xb_new _ _)) k
  have hb : ∀ k, W0.cell? ⟨w.heap.size + 1, k, none⟩ = (#[Value.bool true, .slice B1 m1 d1, .slice B2 m2 d2, .int .i64 n2, .string ⟨#[]⟩])[k]? := fun k => by
    rw [hW0]
    have h := xb_cell (xb_new (w.alloc (.cells #[.bool true, .slice A1 l1 c1, .slice A2 l2 c2, .int .i64 n1, .string ⟨#[]⟩] 38)) (.cells #[.bool true, .slice B1 m1 d1, .slice B2 m2 d2, .int .i64 n2, .string ⟨#[]⟩] 38)) k
    rw [World.size_alloc] at h
    exact h
  have a0 := ha 0
  have a1 := ha 1
  have a2 := ha 2
  have a3 := ha 3
  have a4 := ha 4
  have b0 := hb 0
  have b1 := hb 1
  have b2 := hb 2
  have b3 := hb 3
  have b4 := hb 4
  clear ha hb
  simp only [List.getElem?_toArray, List.getElem?_cons_zero, List.getElem?_cons_succ] at a0 a1 a2 a3 a4 b0 b1 b2 b3 b4
  cases q1
  · have HRf : Hid (r = false) := Lib.hid (by rw [HR.out]; rfl)
    go_enter Tryd.func30, Tryd.ntmps30
    go_wp2_with fail
    rw [← hW0]
    go_wp2_with (first | (go_at_call 19; (with_reducible refine (H1.out _ HB0.out).mono ?_); rintro e w4 ⟨rfl, hb4⟩; have HB4 := Lib.hid (HB0.out.trans (hb4.mono HB0.out.size)); have p2 := bl_cell hb4 a2; have p3 := bl_cell hb4 a3; have p4 := bl_cell hb4 a4; have q2 := bl_cell hb4 b2; have q3 := bl_cell hb4 b3; have q4 := bl_cell hb4 b4; clear hb4 H1))
    go_ret
    exact ⟨by rw [HRf.out]; rfl, HB4.out⟩
  cases q2
  · have HRf : Hid (r = false) := Lib.hid (by rw [HR.out]; rfl)
    go_enter Tryd.func30, Tryd.ntmps30
    go_wp2_with fail
    rw [← hW0]
    go_wp2_with (first | (go_at_call 19; (with_reducible refine (H1.out _ HB0.out).mono ?_); rintro e w4 ⟨rfl, hb4⟩; have HB4 := Lib.hid (HB0.out.trans (hb4.mono HB0.out.size)); have p2 := bl_cell hb4 a2; have p3 := bl_cell hb4 a3; have p4 := bl_cell hb4 a4; have q2 := bl_cell hb4 b2; have q3 := bl_cell hb4 b3; have q4 := bl_cell hb4 b4; clear hb4 H1) | (go_at_call 19; (with_reducible refine (H2.out _ HB4.out).mono ?_); rintro e w5 ⟨rfl, hb5⟩; have HB5 := Lib.hid (HB4.out.trans (hb5.mono HB4.out.size)); have u3 := bl_cell hb5 p3; have u4 := bl_cell hb5 p4; have v3 := bl_cell hb5 q3; have v4 := bl_cell hb5 q4; clear hb5))
    go_ret
    exact ⟨by rw [HRf.out]; rfl, HB5.out⟩
  by_cases hn : n1 = n2
  · subst hn
    have t1 : decide (n1 = n1) = true := decide_eq_true rfl
    have t2 : (n1 == n1) = true := beq_iff_eq.2 rfl
    have HRf : Hid (r = true) := Lib.hid (by rw [HR.out, t1]; rfl)
    go_enter Tryd.func30, Tryd.ntmps30
    go_wp2_with fail
    rw [← hW0]
    go_wp2_with (first | (go_at_call 19; (with_reducible refine (H1.out _ HB0.out).mono ?_); rintro e w4 ⟨rfl, hb4⟩; have HB4 := Lib.hid (HB0.out.trans (hb4.mono HB0.out.size)); have p2 := bl_cell hb4 a2; have p3 := bl_cell hb4 a3; have p4 := bl_cell hb4 a4; have q2 := bl_cell hb4 b2; have q3 := bl_cell hb4 b3; have q4 := bl_cell hb4 b4; clear hb4 H1) | (go_at_call 19; (with_reducible refine (H2.out _ HB4.out).mono ?_); rintro e w5 ⟨rfl, hb5⟩; have HB5 := Lib.hid (HB4.out.trans (hb5.mono HB4.out.size)); have u3 := bl_cell hb5 p3; have u4 := bl_cell hb5 p4; have v3 := bl_cell hb5 q3; have v4 := bl_cell hb5 q4; clear hb5))
    go_ret
    exact ⟨by rw [HRf.out]; rfl, HB5.out⟩
  · have t1 : decide (n1 = n2) = false := decide_eq_false hn
    have t2 : (n1 == n2) = false := beq_eq_false_iff_ne.2 hn
    have HRf : Hid (r = false) := Lib.hid (by rw [HR.out, t1]; rfl)
    go_enter Tryd.func30, Tryd.ntmps30
    go_wp2_with fail
    rw [← hW0]
    go_wp2_with (first | (go_at_call 19; (with_reducible refine (H1.out _ HB0.out).mono ?_); rintro e w4 ⟨rfl, hb4⟩; have HB4 := Lib.hid (HB0.out.trans (hb4.mono HB0.out.size)); have p2 := bl_cell hb4 a2; have p3 := bl_cell hb4 a3; have p4 := bl_cell hb4 a4; have q2 := bl_cell hb4 b2; have q3 := bl_cell hb4 b3; have q4 := bl_cell hb4 b4; clear hb4 H1) | (go_at_call 19; (with_reducible refine (H2.out _ HB4.out).mono ?_); rintro e w5 ⟨rfl, hb5⟩; have HB5 := Lib.hid (HB4.out.trans (hb5.mono HB4.out.size)); have u3 := bl_cell hb5 p3; have u4 := bl_cell hb5 p4; have v3 := bl_cell hb5 q3; have v4 := bl_cell hb5 q4; clear hb5))
    go_ret
    exact ⟨by rw [HRf.out]; rfl, HB5.out⟩
set_option maxHeartbeats 4000000 in
set_option maxRecDepth 100000 in
theorem equalFunc_ok (xs ys : List Ses.Gt) (A B : Option Addr) (cA cB n : Nat) (r : Bool) (w : World) (hA : Ses.gtKd.C w A xs.length xs) (hB : Ses.gtKd.C w B ys.length ys) (hx : xs.length = n) (hy : ys.length = n) (hox : ∀ g ∈ xs, g.ok = true ∧ Byt g.data ∧ Byt g.other) (hoy : ∀ g ∈ ys, g.ok = true ∧ Byt g.data ∧ Byt g.other)
    (hr1 : (∀ (j : Nat) (x y : Ses.Gt), xs[j]? = some x → ys[j]? = some y → Ses.sm x y = true) → r = true) (hr2 : ∀ (j : Nat) (x y : Ses.Gt), xs[j]? = some x → ys[j]? = some y → Ses.sm x y = false → r = false) :
    Calls Tryd.prog 29 #[.slice A n cA, .slice B n cB, .func (.func 30) #[] #[]] w fun e w' => e = .returned (.bool r) ∧ Below w.heap.size w w' := by
  have HA := Lib.hid hA
  have HC := Lib.hid hB
  have hmx := Kd.C_max hA
  rw [hx] at hmx
  have HX := Lib.hid hx
  have HY := Lib.hid hy
  have HOx := Lib.hid hox
  have HOy := Lib.hid hoy
  have HR1 := Lib.hid hr1
  have HR2 := Lib.hid hr2
  clear hA hB hx hy hox hoy hr1 hr2
  go_enter Tryd.func29, Tryd.ntmps29
  go_wp2
  go_loopw [17] (fun v17 wr => ∃ j : Nat, v17 = .int .i64 j ∧ j ≤ n ∧ Hid (Below w.heap.size w wr) ∧ Hid (∀ (i : Nat) (x y : Ses.Gt), i < j → xs[i]? = some x → ys[i]? = some y → Ses.sm x y = true)) (fun v17 _ => n - (intOf v17).toNat)
  case atStart => exact ⟨0, rfl, Nat.zero_le _, Lib.hid (Below.refl _ _), Lib.hid (fun i x y h => absurd h (Nat.not_lt_zero _))⟩
  case round =>
    obtain ⟨j, rfl, hj, HB, HF⟩ := hrel
    by_cases hlt : j < n
    · have t2 : decide ((j : Int) < (n : Int)) = true := decide_eq_true (by omega)
      have t3 : (0 : Int) ≤ (j : Int) := Int.natCast_nonneg _
      have t4 : (j : Int) < (n : Int) := by omega
      have hx0 : xs[j]? = some (xs[j]'(by have := HX.out; omega)) := List.getElem?_eq_getElem _
      have hy0 : ys[j]? = some (ys[j]'(by have := HY.out; omega)) := List.getElem?_eq_getElem _
      generalize xs[j]'(by have := HX.out; omega) = x at hx0
      generalize ys[j]'(by have := HY.out; omega) = y at hy0
      obtain ⟨g0, o0, rfl, -, hel0⟩ := Kd.C_head (Kd.C_below HA.out HB.out) (by decide) (by have := HX.out; omega)
      obtain ⟨g1, o1, rfl, -, hel1⟩ := Kd.C_head (Kd.C_below HC.out HB.out) (by decide) (by have := HY.out; omega)
      obtain ⟨cl0, -, hK0, hc0⟩ := hel0 j x hx0
      obtain ⟨cl1, -, hK1, hc1⟩ := hel1 j y hy0
      obtain ⟨A1, e1, A2, e2, rfl, le1, le2, C1, C2⟩ := Ses.gt_cells hK0
      obtain ⟨B1, f1, B2, f2, rfl, lf1, lf2, D1, D2⟩ := Ses.gt_cells hK1
      obtain ⟨ox, bx1, bx2⟩ := HOx.out x (List.mem_of_getElem? hx0)
      obtain ⟨oy, by1, by2⟩ := HOy.out y (List.mem_of_getElem? hy0)
      rw [ox] at hc0
      rw [oy] at hc1
      have x0 : wr.cell? ⟨g0, o0 + j * 5, none⟩ = some (.bool true) := hc0 0 _ rfl
      have x1 : wr.cell? ⟨g0, o0 + j * 5 + 1, none⟩ = some (.slice A1 x.data.length e1) := hc0 1 _ rfl
      have x2 : wr.cell? ⟨g0, o0 + j * 5 + 2, none⟩ = some (.slice A2 x.other.length e2) := hc0 2 _ rfl
      have x3 : wr.cell? ⟨g0, o0 + j * 5 + 3, none⟩ = some (.int .i64 x.num) := hc0 3 _ rfl
      have x4 : wr.cell? ⟨g0, o0 + j * 5 + 4, none⟩ = some (.string ⟨#[]⟩) := hc0 4 _ rfl
      have hc1a := fun i u h => cell_alloc (.cells #[.bool true, .slice A1 x.data.length e1, .slice A2 x.other.length e2, .int .i64 x.num, .string ⟨#[]⟩] 38) (hc1 i u h)
      have y0 : (wr.alloc (.cells #[.bool true, .slice A1 x.data.length e1, .slice A2 x.other.length e2, .int .i64 x.num, .string ⟨#[]⟩] 38)).cell? ⟨g1, o1 + j * 5, none⟩ = some (.bool true) := hc1a 0 _ rfl
      have y1 : (wr.alloc (.cells #[.bool true, .slice A1 x.data.length e1, .slice A2 x.other.length e2, .int .i64 x.num, .string ⟨#[]⟩] 38)).cell? ⟨g1, o1 + j * 5 + 1, none⟩ = some (.slice B1 y.data.length f1) := hc1a 1 _ rfl
      have y2 : (wr.alloc (.cells #[.bool true, .slice A1 x.data.length e1, .slice A2 x.other.length e2, .int .i64 x.num, .string ⟨#[]⟩] 38)).cell? ⟨g1, o1 + j * 5 + 2, none⟩ = some (.slice B2 y.other.length f2) := hc1a 2 _ rfl
      have y3 : (wr.alloc (.cells #[.bool true, .slice A1 x.data.length e1, .slice A2 x.other.length e2, .int .i64 x.num, .string ⟨#[]⟩] 38)).cell? ⟨g1, o1 + j * 5 + 3, none⟩ = some (.int .i64 y.num) := hc1a 3 _ rfl
      have y4 : (wr.alloc (.cells #[.bool true, .slice A1 x.data.length e1, .slice A2 x.other.length e2, .int .i64 x.num, .string ⟨#[]⟩] 38)).cell? ⟨g1, o1 + j * 5 + 4, none⟩ = some (.string ⟨#[]⟩) := hc1a 4 _ rfl
      have HSm : Hid (∀ W : World, Below wr.heap.size wr W → Calls Tryd.prog 30 #[.agg #[.bool true, .slice A1 x.data.length e1, .slice A2 x.other.length e2, .int .i64 x.num, .string ⟨#[]⟩], .agg #[.bool true, .slice B1 y.data.length f1, .slice B2 y.other.length f2, .int .i64 y.num, .string ⟨#[]⟩]] W fun e w' => e = .returned (.bool (Ses.sm x y)) ∧ Below W.heap.size W w') := Lib.hid (fun W hW => by
        refine sameGot_ok A1 A2 B1 B2 _ _ _ _ e1 e2 f1 f2 x.num y.num (decide (x.data = y.data)) (decide (x.other = y.other)) W (fun W2 hW2 => ?_) (fun W2 hW2 => ?_)
        · refine (bytes_Equal.calls A1 e1 x.data B1 f1 y.data _ W2 (Kd.C_below (Kd.C_below C1 hW) hW2) le1 (Kd.C_below (Kd.C_below D1 hW) hW2) lf1 (Ses.eq_f bx1 by1)).mono ?_
          rintro e w' ⟨rfl, q, rfl⟩
          exact ⟨rfl, bl_drewN _ _⟩
        · refine (bytes_Equal.calls A2 e2 x.other B2 f2 y.other _ W2 (Kd.C_below (Kd.C_below C2 hW) hW2) le2 (Kd.C_below (Kd.C_below D2 hW) hW2) lf2 (Ses.eq_f bx2 by2)).mono ?_
          rintro e w' ⟨rfl, q, rfl⟩
          exact ⟨rfl, bl_drewN _ _⟩)
      obtain ⟨s, hs⟩ : ∃ s, s = Ses.sm x y := ⟨_, rfl⟩
      rw [← hs] at HSm
      have HS := Lib.hid hs
      have HX0 := Lib.hid hx0
      have HY0 := Lib.hid hy0
      obtain ⟨xd, hxd⟩ : ∃ k, k = x.data.length := ⟨_, rfl⟩
      obtain ⟨xo, hxo⟩ : ∃ k, k = x.other.length := ⟨_, rfl⟩
      obtain ⟨yd, hyd⟩ : ∃ k, k = y.data.length := ⟨_, rfl⟩
      obtain ⟨yo, hyo⟩ : ∃ k, k = y.other.length := ⟨_, rfl⟩
      obtain ⟨xn, hxn⟩ : ∃ k, k = x.num := ⟨_, rfl⟩
      obtain ⟨yn, hyn⟩ : ∃ k, k = y.num := ⟨_, rfl⟩
      clear hel0 hel1 hK0 hK1 hc0 hc1 hc1a C1 C2 D1 D2 hs hx0 hy0 ox oy bx1 bx2 by1 by2 le1 le2 lf1 lf2
      rw [← hxd] at x1
      rw [← hxo] at x2
      rw [← hxn] at x3
      rw [← hxd, ← hxo, ← hxn] at y0 y3 y4
      rw [← hxd, ← hxo, ← hxn, ← hyd] at y1
      rw [← hxd, ← hxo, ← hxn, ← hyo] at y2
      rw [← hyn] at y3
      rw [← hxd, ← hxo, ← hxn, ← hyd, ← hyo, ← hyn] at HSm
      clear hxd hxo hyd hyo hxn hyn
      have HW : Hid (Below wr.heap.size wr ((wr.alloc (.cells #[.bool true, .slice A1 xd e1, .slice A2 xo e2, .int .i64 xn, .string ⟨#[]⟩] 38)).alloc (.cells #[.bool true, .slice B1 yd f1, .slice B2 yo f2, .int .i64 yn, .string ⟨#[]⟩] 38))) := Lib.hid (below_alloc (below_alloc (Below.refl _ _) _) _)
      cases s
      · have HRf : Hid (r = false) := Lib.hid (HR2.out j x y HX0.out HY0.out HS.out.symm)
        go_wp2_with (go_at_call 30; (with_reducible refine (HSm.out _ HW.out).mono ?_); rintro e w4 ⟨rfl, hb4⟩; have HB4 := Lib.hid (HW.out.trans (hb4.mono HW.out.size)); clear hb4)
        go_ret
        exact ⟨by rw [HRf.out]; rfl, HB.out.trans (HB4.out.mono HB.out.size)⟩
      · go_wp2_with (go_at_call 30; (with_reducible refine (HSm.out _ HW.out).mono ?_); rintro e w4 ⟨rfl, hb4⟩; have HB4 := Lib.hid (HW.out.trans (hb4.mono HW.out.size)); clear hb4)
        go_roundw
        case measure => simp [intOf]; omega
        case rel => exact ⟨j + 1, by go_num, by omega, Lib.hid (HB.out.trans (HB4.out.mono HB.out.size)), Lib.hid (fun i a b hi ha hb => by
          by_cases hij : i < j
          · exact HF.out i a b hij ha hb
          · obtain rfl : i = j := by omega
            rw [HX0.out] at ha
            rw [HY0.out] at hb
            rw [← Option.some.inj ha, ← Option.some.inj hb]
            exact HS.out.symm)⟩
    · have hjn : j = n := by omega
      have t2 : decide ((j : Int) < (n : Int)) = false := decide_eq_false (by omega)
      have HRt : Hid (r = true) := Lib.hid (HR1.out (fun i x y hx hy => HF.out i x y (by have := (List.getElem?_eq_some_iff.1 hx).1; have := HX.out; omega) hx hy))
      go_wp2
      go_ret
      exact ⟨by rw [HRt.out]; rfl, HB.out⟩
end Go.Proofs.YtdnahdddkagfhaaDoor.X
