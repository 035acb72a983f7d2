/- slices.Equal of equal rows; servedAwake. -/
import Derived.Test.YtgjjmhhdncmigaaDoorVe
namespace Go.Proofs.YtgjjmhhdncmigaaDoor.X
open Go.RowKit Go.Proofs.YtgjjmhhdncmigaaDoorW.PrintWords Go.Proofs.YtgjjmhhdncmigaaDoorW.PrintMore
attribute [local go_sem] setCell_drewN alloc_drewN
set_option linter.unusedVariables false
set_option linter.unusedSimpArgs false
set_option maxHeartbeats 4000000 in
set_option maxRecDepth 100000 in
theorem equalB_ok (xs : List Bool) (A B : Option Addr) (cA cB : Nat) (w : World) (hA : Kd.bool.C w A xs.length xs) (hB : Kd.bool.C w B xs.length xs) :
    Calls Tryd.prog 11 #[.slice A xs.length cA, .slice B xs.length cB] w fun e w' => e = .returned (.bool true) ∧ Below w.heap.size w w' := by
  have HA := Lib.hid hA
  have HC := Lib.hid hB
  have hmx := Kd.C_max hA
  obtain ⟨n, hnl⟩ : ∃ n, n = xs.length := ⟨_, rfl⟩
  have HN := Lib.hid hnl
  rw [← hnl] at hmx ⊢
  clear hA hB hnl
  go_enter Tryd.func11, Tryd.ntmps11
  go_wp2
  go_loopw [13] (fun v13 wr => ∃ j : Nat, v13 = .int .i64 j ∧ j ≤ n ∧ Hid (Below w.heap.size w wr)) (fun v13 _ => n - (intOf v13).toNat)
  case atStart => exact ⟨0, rfl, Nat.zero_le _, Lib.hid (Below.refl _ _)⟩
  case round =>
    obtain ⟨j, rfl, hj, HB⟩ := hrel
    by_cases hlt : j < n
    · have hjl : j < xs.length := by rw [← HN.out]; exact hlt
      have t2 : decide ((j : Int) < (n : Int)) = true := decide_eq_true (by omega)
      have t3 : (0 : Int) ≤ (j : Int) := Int.natCast_nonneg _
      have t4 : (j : Int) < (n : Int) := by omega
      obtain ⟨⟨g0, o0, q0⟩, rfl, hs0⟩ := Kd.at_bool (Kd.C_below HA.out HB.out) (j : Int) t3 (by have := HN.out; omega)
      obtain ⟨⟨g1, o1, q1⟩, rfl, hs1⟩ := Kd.at_bool (Kd.C_below HC.out HB.out) (j : Int) t3 (by have := HN.out; omega)
      generalize rdOf false xs (j : Int) = b at hs0 hs1
      rw [Int.toNat_natCast] at hs0 hs1
      go_wp2
      go_quiet (skip)
      go_simp
      skip
      go_wp2
      go_roundw
      case measure => simp [intOf]; omega
      case rel => exact ⟨j + 1, by go_num, by omega, Lib.hid (HB.out.trans ((bl_drewN _ _).mono HB.out.size))⟩
    · have hjn : j = n := by omega
      have t2 : decide ((j : Int) < (n : Int)) = false := decide_eq_false (by omega)
      go_wp2
      go_ret
      exact ⟨rfl, HB.out⟩
set_option maxHeartbeats 4000000 in
set_option maxRecDepth 100000 in
theorem equalS_ok (xs : List Sv.Srv) (A B : Option Addr) (cA cB : Nat) (w : World) (hA : Sv.srvKd.C w A xs.length xs) (hB : Sv.srvKd.C w B xs.length xs) :
    Calls Tryd.prog 10 #[.slice A xs.length cA, .slice B xs.length cB] w fun e w' => e = .returned (.bool true) ∧ Below w.heap.size w w' := by
  have HA := Lib.hid hA
  have HC := Lib.hid hB
  have hmx := Kd.C_max hA
  obtain ⟨n, hnl⟩ : ∃ n, n = xs.length := ⟨_, rfl⟩
  have HN := Lib.hid hnl
  rw [← hnl] at hmx ⊢
  clear hA hB hnl
  go_enter Tryd.func10, Tryd.ntmps10
  go_wp2
  go_loopw [13] (fun v13 wr => ∃ j : Nat, v13 = .int .i64 j ∧ j ≤ n ∧ Hid (Below w.heap.size w wr)) (fun v13 _ => n - (intOf v13).toNat)
  case atStart => exact ⟨0, rfl, Nat.zero_le _, Lib.hid (Below.refl _ _)⟩
  case round =>
    obtain ⟨j, rfl, hj, HB⟩ := hrel
    by_cases hlt : j < n
    · have hjl : j < xs.length := by rw [← HN.out]; exact hlt
      have t2 : decide ((j : Int) < (n : Int)) = true := decide_eq_true (by omega)
      have t3 : (0 : Int) ≤ (j : Int) := Int.natCast_nonneg _
      have t4 : (j : Int) < (n : Int) := by omega
      obtain ⟨g0, o0, rfl, y0, y1, y2⟩ := Sv.srv_at (Kd.C_below HA.out HB.out) j hjl
      obtain ⟨g1, o1, rfl, z0, z1, z2⟩ := Sv.srv_at (Kd.C_below HC.out HB.out) j hjl
      generalize xs[j] = y at y0 y1 y2 z0 z1 z2
      obtain ⟨yp, ya, yn⟩ := y
      simp only at y0 y1 y2 z0 z1 z2
      go_wp2
      go_quiet (skip)
      go_simp
      skip
      go_wp2
      go_roundw
      case measure => simp [intOf]; omega
      case rel => exact ⟨j + 1, by go_num, by omega, Lib.hid (HB.out.trans ((bl_drewN _ _).mono HB.out.size))⟩
    · have hjn : j = n := by omega
      have t2 : decide ((j : Int) < (n : Int)) = false := decide_eq_false (by omega)
      go_wp2
      go_ret
      exact ⟨rfl, HB.out⟩
namespace Sv
def awk : List Stp := [(0, ⟨#[]⟩, ⟨#[97]⟩, 1), (1, ⟨#[]⟩, ⟨#[]⟩, 0)]
theorem awk_gots : gots awk = [(⟨#[]⟩, ⟨#[]⟩, 0), (⟨#[]⟩, ⟨#[97]⟩, 1)] := rfl
theorem awk_oks : oks awk = [false, true] := rfl
theorem awk_st : (st awk).1 = [(⟨#[]⟩, ⟨#[97]⟩, 1)] := rfl
theorem awk_ok : ∀ x ∈ awk, Ok x.2 := by
  intro x hx
  simp only [awk, List.mem_cons, List.not_mem_nil, or_false] at hx
  rcases hx with rfl | rfl
  · exact ⟨by decide, by decide, by decide⟩
  · exact ⟨by decide, by decide, by decide⟩
theorem awk_C {w : World} {g : Nat} {ty : TypeId} {fr : Nat × Nat} (hb : w.heap[g]? = some (.cells #[.int .i64 0, .string ⟨#[]⟩, .string ⟨#[97]⟩, .int .i64 1, .int .i64 1, .string ⟨#[]⟩, .string ⟨#[]⟩, .int .i64 0] ty fr)) : stpKd.C w (some ⟨g, 0, none⟩) 2 awk := by
  refine row_C (d := stpKd) (xs := awk) hb (by decide) (fun j p hj => ?_)
  match j, hj with
  | 0, hj =>
    obtain rfl := Option.some.inj hj
    refine ⟨[.int .i64 0, .string ⟨#[]⟩, .string ⟨#[97]⟩, .int .i64 1], rfl, ⟨[_], _, rfl, rfl, [_], _, rfl, rfl, [_], _, rfl, rfl, rfl⟩, fun i u hi => ?_⟩
    match i, hi with
    | 0, hi => exact hi
    | 1, hi => exact hi
    | 2, hi => exact hi
    | 3, hi => exact hi
  | 1, hj =>
    obtain rfl := Option.some.inj hj
    refine ⟨[.int .i64 1, .string ⟨#[]⟩, .string ⟨#[]⟩, .int .i64 0], rfl, ⟨[_], _, rfl, rfl, [_], _, rfl, rfl, [_], _, rfl, rfl, rfl⟩, fun i u hi => ?_⟩
    match i, hi with
    | 0, hi => exact hi
    | 1, hi => exact hi
    | 2, hi => exact hi
    | 3, hi => exact hi
theorem bool2_C {w : World} {g : Nat} {a b : Bool} {ty : TypeId} {fr : Nat × Nat} (hb : w.heap[g]? = some (.cells #[.bool a, .bool b] ty fr)) : Kd.bool.C w (some ⟨g, 0, none⟩) 2 [a, b] := by
  refine row_C (d := Kd.bool) hb (by simp) (fun j p hj => ?_)
  match j, hj with
  | 0, hj => obtain rfl := Option.some.inj hj; exact ⟨[.bool a], rfl, rfl, fun i u hi => by match i, hi with | 0, hi => exact hi⟩
  | 1, hj => obtain rfl := Option.some.inj hj; exact ⟨[.bool b], rfl, rfl, fun i u hi => by match i, hi with | 0, hi => exact hi⟩
end Sv
set_option maxHeartbeats 4000000 in
set_option maxRecDepth 100000 in
theorem servedAwake_ok (w : World) :
    Calls Tryd.prog 7 #[] w fun e w' => e = .returned (.bool true) ∧ Below w.heap.size w w' := by
  have hL : ((w.alloc (.cells #[.string ⟨#[]⟩, .string ⟨#[97]⟩, .int .i64 1] 30)).alloc (.cells #[.int .i64 0, .string ⟨#[]⟩, .string ⟨#[97]⟩, .int .i64 1, .int .i64 1, .string ⟨#[]⟩, .string ⟨#[]⟩, .int .i64 0] 32)).heap[w.heap.size + 1]? = some (.cells #[.int .i64 0, .string ⟨#[]⟩, .string ⟨#[97]⟩, .int .i64 1, .int .i64 1, .string ⟨#[]⟩, .string ⟨#[]⟩, .int .i64 0] 32 (0, 0)) := by
    have h := xb_new (w.alloc (.cells #[.string ⟨#[]⟩, .string ⟨#[97]⟩, .int .i64 1] 30)) (.cells #[.int .i64 0, .string ⟨#[]⟩, .string ⟨#[97]⟩, .int .i64 1, .int .i64 1, .string ⟨#[]⟩, .string ⟨#[]⟩, .int .i64 0] 32)
    rw [World.size_alloc] at h
    exact h
  have HSv : Hid (Calls Tryd.prog 9 #[.slice (some ⟨w.heap.size + 1, 0, none⟩) 2 2] ((w.alloc (.cells #[.string ⟨#[]⟩, .string ⟨#[97]⟩, .int .i64 1] 30)).alloc (.cells #[.int .i64 0, .string ⟨#[]⟩, .string ⟨#[97]⟩, .int .i64 1, .int .i64 1, .string ⟨#[]⟩, .string ⟨#[]⟩, .int .i64 0] 32)) fun e w' => (∃ v1 v2 v3, e = .returned (.tuple #[v1, v2, v3]) ∧ Sv.srvKd.R 30 w' ((w.alloc (.cells #[.string ⟨#[]⟩, .string ⟨#[97]⟩, .int .i64 1] 30)).alloc (.cells #[.int .i64 0, .string ⟨#[]⟩, .string ⟨#[97]⟩, .int .i64 1, .int .i64 1, .string ⟨#[]⟩, .string ⟨#[]⟩, .int .i64 0] 32)).heap.size (fun _ => True) v1 (Sv.gots Sv.awk) ∧ Kd.bool.R 4 w' ((w.alloc (.cells #[.string ⟨#[]⟩, .string ⟨#[97]⟩, .int .i64 1] 30)).alloc (.cells #[.int .i64 0, .string ⟨#[]⟩, .string ⟨#[97]⟩, .int .i64 1, .int .i64 1, .string ⟨#[]⟩, .string ⟨#[]⟩, .int .i64 0] 32)).heap.size (fun _ => True) v2 (Sv.oks Sv.awk) ∧ Sv.srvKd.R 30 w' ((w.alloc (.cells #[.string ⟨#[]⟩, .string ⟨#[97]⟩, .int .i64 1] 30)).alloc (.cells #[.int .i64 0, .string ⟨#[]⟩, .string ⟨#[97]⟩, .int .i64 1, .int .i64 1, .string ⟨#[]⟩, .string ⟨#[]⟩, .int .i64 0] 32)).heap.size (fun _ => True) v3 (Sv.st Sv.awk).1) ∧ Below ((w.alloc (.cells #[.string ⟨#[]⟩, .string ⟨#[97]⟩, .int .i64 1] 30)).alloc (.cells #[.int .i64 0, .string ⟨#[]⟩, .string ⟨#[97]⟩, .int .i64 1, .int .i64 1, .string ⟨#[]⟩, .string ⟨#[]⟩, .int .i64 0] 32)).heap.size ((w.alloc (.cells #[.string ⟨#[]⟩, .string ⟨#[97]⟩, .int .i64 1] 30)).alloc (.cells #[.int .i64 0, .string ⟨#[]⟩, .string ⟨#[97]⟩, .int .i64 1, .int .i64 1, .string ⟨#[]⟩, .string ⟨#[]⟩, .int .i64 0] 32)) w') := Lib.hid (implServed_ok Sv.awk (some ⟨w.heap.size + 1, 0, none⟩) 2 ((w.alloc (.cells #[.string ⟨#[]⟩, .string ⟨#[97]⟩, .int .i64 1] 30)).alloc (.cells #[.int .i64 0, .string ⟨#[]⟩, .string ⟨#[97]⟩, .int .i64 1, .int .i64 1, .string ⟨#[]⟩, .string ⟨#[]⟩, .int .i64 0] 32)) (Sv.awk_C hL) (by decide) Sv.awk_ok)
  have hX : ∀ i, ((w.alloc (.cells #[.string ⟨#[]⟩, .string ⟨#[97]⟩, .int .i64 1] 30)).alloc (.cells #[.int .i64 0, .string ⟨#[]⟩, .string ⟨#[97]⟩, .int .i64 1, .int .i64 1, .string ⟨#[]⟩, .string ⟨#[]⟩, .int .i64 0] 32)).cell? ⟨w.heap.size, i, none⟩ = (#[.string ⟨#[]⟩, .string ⟨#[97]⟩, .int .i64 1] : Array Value)[i]? := fun i => xb_cell (xb_alloc (xb_new _ _)) i
  have hx0 := hX 0
  have hx1 := hX 1
  have hx2 := hX 2
  simp only [List.getElem?_toArray, List.getElem?_cons_zero, List.getElem?_cons_succ] at hx0 hx1 hx2
  have HB0 : Hid (Below w.heap.size w ((w.alloc (.cells #[.string ⟨#[]⟩, .string ⟨#[97]⟩, .int .i64 1] 30)).alloc (.cells #[.int .i64 0, .string ⟨#[]⟩, .string ⟨#[97]⟩, .int .i64 1, .int .i64 1, .string ⟨#[]⟩, .string ⟨#[]⟩, .int .i64 0] 32))) := Lib.hid (below_alloc (below_alloc (Below.refl _ _) _) _)
  clear hL hX
  go_enter Tryd.func7, Tryd.ntmps7
  go_wp2_with (go_at_call 9; (refine HSv.out.mono ?_); rintro e w4 ⟨⟨v1, v2, v3, rfl, h1, h2, h3⟩, hb4⟩; rw [Sv.awk_gots] at h1; rw [Sv.awk_oks] at h2; rw [Sv.awk_st] at h3; obtain ⟨A1, c1, rfl, hc1, hC1⟩ := Kd.R_reads h1; obtain ⟨A2, c2, rfl, hc2, hC2⟩ := Kd.R_reads h2; obtain ⟨A3, c3, rfl, hc3, hC3⟩ := Kd.R_reads h3; have x0 := bl_cell hb4 hx0; have x1 := bl_cell hb4 hx1; have x2 := bl_cell hb4 hx2; have HB4 : Hid (Below w.heap.size w w4) := Lib.hid (HB0.out.trans (hb4.mono HB0.out.size)); have HC1 := Lib.hid hC1; have HC2 := Lib.hid hC2; have HC3 := Lib.hid hC3; clear hb4 h1 h2 h3 hC1 hC2 hC3)
  obtain ⟨g1, o1, rfl, a0, a1, a2⟩ := Sv.srv_at HC1.out 1 (by simp)
  obtain ⟨g3, o3, rfl, b0, b1, b2⟩ := Sv.srv_at HC3.out 0 (by simp)
  have a0 : w4.cell? ⟨g1, o1 + 3, none⟩ = some (.string ⟨#[]⟩) := a0
  have a1 : w4.cell? ⟨g1, o1 + 3 + 1, none⟩ = some (.string ⟨#[97]⟩) := a1
  have a2 : w4.cell? ⟨g1, o1 + 3 + 2, none⟩ = some (.int .i64 1) := a2
  have b0 : w4.cell? ⟨g3, o3, none⟩ = some (.string ⟨#[]⟩) := by have h := b0; rw [Nat.zero_mul, Nat.add_zero] at h; exact h
  have b1 : w4.cell? ⟨g3, o3 + 1, none⟩ = some (.string ⟨#[97]⟩) := by have h := b1; rw [Nat.zero_mul, Nat.add_zero] at h; exact h
  have b2 : w4.cell? ⟨g3, o3 + 2, none⟩ = some (.int .i64 1) := by have h := b2; rw [Nat.zero_mul, Nat.add_zero] at h; exact h
  have HEqB : Hid (∀ W : World, Below w4.heap.size w4 W → W.heap[w4.heap.size]? = some (.cells #[.bool false, .bool true] 4 (0, 0)) → Calls Tryd.prog 11 #[.slice A2 2 c2, .slice (some ⟨w4.heap.size, 0, none⟩) 2 2] W fun e w' => e = .returned (.bool true) ∧ Below W.heap.size W w') := Lib.hid (fun W hW hb => equalB_ok [false, true] A2 _ c2 2 W (Kd.C_below HC2.out hW) (Sv.bool2_C hb))
  go_region_held3 (fun w' => w'.cell? ⟨g1, o1 + 3, none⟩ = some (.string ⟨#[]⟩) ∧ w'.cell? ⟨g1, o1 + 3 + 1, none⟩ = some (.string ⟨#[97]⟩) ∧ w'.cell? ⟨g1, o1 + 3 + 2, none⟩ = some (.int .i64 1) ∧ w'.cell? ⟨w.heap.size, 0, none⟩ = some (.string ⟨#[]⟩) ∧ w'.cell? ⟨w.heap.size, 1, none⟩ = some (.string ⟨#[97]⟩) ∧ w'.cell? ⟨w.heap.size, 2, none⟩ = some (.int .i64 1) ∧ w'.cell? ⟨g3, o3, none⟩ = some (.string ⟨#[]⟩) ∧ w'.cell? ⟨g3, o3 + 1, none⟩ = some (.string ⟨#[97]⟩) ∧ w'.cell? ⟨g3, o3 + 2, none⟩ = some (.int .i64 1)) (first | exact ⟨a0, a1, a2, x0, x1, x2, b0, b1, b2⟩ | exact ⟨cell_alloc _ a0, cell_alloc _ a1, cell_alloc _ a2, cell_alloc _ x0, cell_alloc _ x1, cell_alloc _ x2, cell_alloc _ b0, cell_alloc _ b1, cell_alloc _ b2⟩ | exact ⟨d0, d1, d2, e0, e1, e2, f0, f1, f2⟩) (first | (go_at_call 11; (refine (HEqB.out _ (by exact below_alloc (bl_drewN w4 _) _) (by exact xb_new _ _)).mono ?_); rintro e w5 ⟨rfl, hb5⟩; have d0 := bl_cell hb5 (cell_alloc _ a0); have d1 := bl_cell hb5 (cell_alloc _ a1); have d2 := bl_cell hb5 (cell_alloc _ a2); have e0 := bl_cell hb5 (cell_alloc _ x0); have e1 := bl_cell hb5 (cell_alloc _ x1); have e2 := bl_cell hb5 (cell_alloc _ x2); have f0 := bl_cell hb5 (cell_alloc _ b0); have f1 := bl_cell hb5 (cell_alloc _ b1); have f2 := bl_cell hb5 (cell_alloc _ b2); have HB5 : Hid (Below w4.heap.size w4 w5) := Lib.hid (bl_trans (below_alloc (bl_drewN w4 _) _) hb5); clear hb5))
  go_wp2
  go_ret
  exact ⟨rfl, HB4.out.trans (HB5.out.mono HB4.out.size)⟩
end Go.Proofs.YtgjjmhhdncmigaaDoor.X
