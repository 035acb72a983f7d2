/- impl.got: a step of a reader that gives none. -/
import Derived.Test.YtdnahdddkagfhaaDoorRd
namespace Go.Proofs.YtdnahdddkagfhaaDoor.X
open Go.RowKit Go.Proofs.YtdnahdddkagfhaaDoorW.PrintWords Go.Proofs.YtdnahdddkagfhaaDoorW.PrintMore
attribute [local go_sem] setCell_drewN alloc_drewN
set_option linter.unusedVariables false
set_option linter.unusedSimpArgs false
theorem grown_far {a w : World} {row : Option Nat} (h : a.grownBy w row) {p i : Nat} (u : Value) (hp : a.heap.size ≤ p) : a.grownBy (w.setCell ⟨p, i, none⟩ u) row :=
  ⟨h.os, h.tape, h.output, by rw [World.size_setCell]; exact h.size, fun k hk hr => (blk_set_other (by omega)).trans (h.block k hk hr)⟩
namespace Ses
theorem RS.far {w : World} {b g c p i : Nat} {l : List Int} {idx : Nat} {big : Bool} {chunk : Int} (h : RS w b g c l idx big chunk) (u : Value) (hb : b ≠ p) (hg : g ≠ p) : RS (w.setCell ⟨p, i, none⟩ u) b g c l idx big chunk :=
  ⟨(blk_set_other hb).trans h.blk, h.ne, h.cap, fun j hj => (set_far hg).trans (h.cells j hj), h.max, by rw [World.size_setCell]; exact h.lt⟩
/-- The three blocks that impl.got makes: the step, its result, and what it gives. -/
def W3 (w : World) (kind size : Int) (big comp : Bool) : World := ((w.alloc (.cells #[.int .i64 kind, .int .i64 size, .bool big, .bool comp] 35)).alloc (.cells #[.bool false, .slice none 0 0, .slice none 0 0, .int .i64 0, .string ⟨#[]⟩] 38)).alloc (.cells #[.bool false, .slice none 0 0, .slice none 0 0, .int .i64 0, .string ⟨#[]⟩] 38)
theorem W3_bl (w : World) (kind size : Int) (big comp : Bool) : Below w.heap.size w (W3 w kind size big comp) := below_alloc (below_alloc (below_alloc (Below.refl _ _) _) _) _
theorem W3_size (w : World) (kind size : Int) (big comp : Bool) : (W3 w kind size big comp).heap.size = w.heap.size + 1 + 1 + 1 := by unfold W3; rw [World.size_alloc, World.size_alloc, World.size_alloc]
theorem W3_0 (w : World) (kind size : Int) (big comp : Bool) : (W3 w kind size big comp).heap[w.heap.size]? = some (.cells #[.int .i64 kind, .int .i64 size, .bool big, .bool comp] 35 (0, 0)) := xb_alloc (xb_alloc (xb_new _ _))
theorem W3_1 (w : World) (kind size : Int) (big comp : Bool) : (W3 w kind size big comp).heap[w.heap.size + 1]? = some (.cells #[.bool false, .slice none 0 0, .slice none 0 0, .int .i64 0, .string ⟨#[]⟩] 38 (0, 0)) := xb_alloc (by
  have := xb_new (w.alloc (.cells #[.int .i64 kind, .int .i64 size, .bool big, .bool comp] 35)) (.cells #[.bool false, .slice none 0 0, .slice none 0 0, .int .i64 0, .string ⟨#[]⟩] 38)
  rwa [World.size_alloc] at this)
theorem W3_2 (w : World) (kind size : Int) (big comp : Bool) : (W3 w kind size big comp).heap[w.heap.size + 1 + 1]? = some (.cells #[.bool false, .slice none 0 0, .slice none 0 0, .int .i64 0, .string ⟨#[]⟩] 38 (0, 0)) := by
  have := xb_new ((w.alloc (.cells #[.int .i64 kind, .int .i64 size, .bool big, .bool comp] 35)).alloc (.cells #[.bool false, .slice none 0 0, .slice none 0 0, .int .i64 0, .string ⟨#[]⟩] 38)) (.cells #[.bool false, .slice none 0 0, .slice none 0 0, .int .i64 0, .string ⟨#[]⟩] 38)
  rwa [World.size_alloc, World.size_alloc] at this
theorem W3_grown {w w1 : World} {kind size : Int} {big comp : Bool} {b : Nat} (hb : b < w.heap.size) (h : (W3 w kind size big comp).grownBy w1 (some b)) : w.grownBy w1 (some b) :=
  grown_trans ⟨(W3_bl w kind size big comp).os, (W3_bl w kind size big comp).tape, (W3_bl w kind size big comp).output, (W3_bl w kind size big comp).size, fun i hi _ => (W3_bl w kind size big comp).block i hi⟩ h
theorem got_block {w1 : World} {n1 n2 : Nat} {a0 a1 a2 a3 a4 : Value} {T : TypeId} (hne : n1 ≠ n2) (k1 : w1.heap[n1]? = some (.cells #[a0, a1, a2, a3, a4] T (0, 0))) (u1 u2 u3 u4 v0 v1 v2 v3 v4 : Value) :
    (((((((((w1.setCell ⟨n2, 1, none⟩ u1).setCell ⟨n2, 0, none⟩ u2).setCell ⟨n2, 1, none⟩ u3).setCell ⟨n2, 2, none⟩ u4).setCell ⟨n1, 0, none⟩ v0).setCell ⟨n1, 1, none⟩ v1).setCell ⟨n1, 2, none⟩ v2).setCell ⟨n1, 3, none⟩ v3).setCell ⟨n1, 4, none⟩ v4).drew.heap[n1]? = some (.cells #[v0, v1, v2, v3, v4] T (0, 0)) := by
  have e : ∀ W : World, W.drew.heap = W.heap := fun _ => rfl
  rw [e]
  have h0 := (blk_set_other (u := u4) (i := 2) hne).trans ((blk_set_other (u := u3) (i := 1) hne).trans ((blk_set_other (u := u2) (i := 0) hne).trans ((blk_set_other (u := u1) (i := 1) hne).trans k1)))
  have h5 := xb_set (xb_set (xb_set (xb_set (xb_set h0 0 v0) 1 v1) 2 v2) 3 v3) 4 v4
  simpa using h5
/-- The cells of the three blocks, behind a call that leaves all but block b. -/
structure G3 (w w1 : World) (kind size : Int) (big comp : Bool) (num : Int) (data other : Value) (ok : Bool) : Prop where
  k0 : w1.heap[w.heap.size]? = some (.cells #[.int .i64 kind, .int .i64 size, .bool big, .bool comp] 35 (0, 0))
  k1 : w1.heap[w.heap.size + 1]? = some (.cells #[.bool false, .slice none 0 0, .slice none 0 0, .int .i64 0, .string ⟨#[]⟩] 38 (0, 0))
  k2 : w1.heap[w.heap.size + 1 + 1]? = some (.cells #[.bool ok, data, other, .int .i64 num, .string ⟨#[]⟩] 38 (0, 0))
theorem G3_of {w w1 : World} {kind size : Int} {big comp : Bool} {b : Nat} (hb : b < w.heap.size) (h : (W3 w kind size big comp).grownBy w1 (some b)) : G3 w w1 kind size big comp 0 (.slice none 0 0) (.slice none 0 0) false :=
  ⟨(h.block _ (by rw [W3_size]; omega) (fun e => by have := Option.some.inj e; omega)).trans (W3_0 w kind size big comp), (h.block _ (by rw [W3_size]; omega) (fun e => by have := Option.some.inj e; omega)).trans (W3_1 w kind size big comp), (h.block _ (by rw [W3_size]; omega) (fun e => by have := Option.some.inj e; omega)).trans (W3_2 w kind size big comp)⟩
end Ses
set_option maxHeartbeats 1000000 in
set_option maxRecDepth 100000 in
/-- A CLR that is none. -/
theorem got_clr_none (w : World) (b g c : Nat) (l : List Int) (idx : Nat) (big : Bool) (chunk : Int) (h : Ses.RS w b g c l idx big chunk) (hk : idx < l.length) (hz : l.getD idx 0 = 0 ∨ l.getD idx 0 = 255 ∨ l.getD idx 0 = 253) :
    Calls Tryd.prog 48 #[.pointer (some ⟨b, 0, none⟩), .agg #[.int .i64 2, .int .i64 0, .bool false, .bool false]] w fun e w' => e = .returned (.agg #[.bool true, .slice none 0 0, .slice none 0 0, .int .i64 0, .string ⟨#[]⟩]) ∧ Ses.RS w' b g c l (idx + 1) big chunk ∧ w.grownBy w' (some b) := by
  have HR := Lib.hid (fun W (hw : Ses.RS W b g c l idx big chunk) => getClr_none W b g c l idx big chunk hw hk hz)
  have HCn := Lib.hid (fun n c W => Tryd.bytes_Clone_nil n c W)
  have HH := Lib.hid (h.bl (Ses.W3_bl w 2 0 false false))
  have hb := xb_lt h.blk
  have hg0 := h.lt
  unfold Ses.W3 at HH
  clear h hz hk
  go_enter Tryd.func48, Tryd.ntmps48
  go_wp2_with (go_at_call 70; (with_reducible refine (HR.out _ HH.out).mono ?_); rintro e w1 ⟨rfl, hrs, hg⟩; have HRS := Lib.hid hrs; have HG := Lib.hid (Ses.W3_grown (kind := 2) (size := 0) (big := false) (comp := false) hb hg); have hk3 := Ses.G3_of (kind := 2) (size := 0) (big := false) (comp := false) hb hg; have x0 := xb_cell hk3.k0 0; have x1 := xb_cell hk3.k0 1; have x2 := xb_cell hk3.k0 2; have x3 := xb_cell hk3.k0 3; have y0 := xb_cell hk3.k2 0; have z0 := xb_cell hk3.k1 0; have fy0 := blk_free hk3.k2 0; have fz0 := blk_free hk3.k1 0; have y1 := xb_cell hk3.k2 1; have z1 := xb_cell hk3.k1 1; have fy1 := blk_free hk3.k2 1; have fz1 := blk_free hk3.k1 1; have y2 := xb_cell hk3.k2 2; have z2 := xb_cell hk3.k1 2; have fy2 := blk_free hk3.k2 2; have fz2 := blk_free hk3.k1 2; have y3 := xb_cell hk3.k2 3; have z3 := xb_cell hk3.k1 3; have fy3 := blk_free hk3.k2 3; have fz3 := blk_free hk3.k1 3; have y4 := xb_cell hk3.k2 4; have z4 := xb_cell hk3.k1 4; have fy4 := blk_free hk3.k2 4; have fz4 := blk_free hk3.k1 4; have K2 := Lib.hid hk3; simp only [List.getElem?_toArray, List.getElem?_cons_zero, List.getElem?_cons_succ] at x0 x1 x2 x3 y0 y1 y2 y3 y4 z0 z1 z2 z3 z4; clear hrs hg hk3)
  go_region_held3 (fun w' => w'.cell? ⟨w.heap.size + 1 + 1, 1, none⟩ = some (.slice none 0 0) ∧ w'.cell? ⟨w.heap.size + 1 + 1, 2, none⟩ = some (.slice none 0 0)) (first | assumption | (refine ⟨?_, ?_⟩ <;> go_simp <;> done)) (first | (go_at_call 17; (with_reducible refine (HCn.out _ _ _).mono ?_); rintro e w2 ⟨rfl, rfl⟩))
  go_wp2
  refine bodyPost_ret (results_cell_row rfl _ _ (w.heap.size + 1) 38 #[.bool true, .slice none 0 0, .slice none 0 0, .int .i64 0, .string ⟨#[]⟩] (0, 0) _ rfl ?_ Tryd.underlying38 rfl (by kernel_rfl)) rfl ?_
  · exact Ses.got_block (by omega) K2.out.k1 _ _ _ _ _ _ _ _ _
  · refine ⟨rfl, Ses.RS.bl ?_ (below_drew (Below.refl _ _)), World.grownBy.drew ?_⟩
    · iterate 9 refine Ses.RS.far ?_ _ (by omega) (by omega)
      exact HRS.out
    · iterate 9 refine grown_far ?_ _ (by omega)
      exact HG.out
set_option maxHeartbeats 1000000 in
set_option maxRecDepth 100000 in
/-- A fixed CLR that is none. -/
theorem got_fixed_none (w : World) (b g c : Nat) (l : List Int) (idx : Nat) (big : Bool) (chunk : Int) (h : Ses.RS w b g c l idx big chunk) (hk : idx < l.length) (hz : l.getD idx 0 = 0 ∨ l.getD idx 0 = 255 ∨ l.getD idx 0 = 253) :
    Calls Tryd.prog 48 #[.pointer (some ⟨b, 0, none⟩), .agg #[.int .i64 8, .int .i64 0, .bool false, .bool false]] w fun e w' => e = .returned (.agg #[.bool true, .slice none 0 0, .slice none 0 0, .int .i64 0, .string ⟨#[]⟩]) ∧ Ses.RS w' b g c l (idx + 1) big chunk ∧ w.grownBy w' (some b) := by
  have HR := Lib.hid (fun W (hw : Ses.RS W b g c l idx big chunk) => getFixed_none W b g c l idx big chunk hw hk hz)
  have HCn := Lib.hid (fun n c W => Tryd.bytes_Clone_nil n c W)
  have HH := Lib.hid (h.bl (Ses.W3_bl w 8 0 false false))
  have hb := xb_lt h.blk
  have hg0 := h.lt
  unfold Ses.W3 at HH
  clear h hz hk
  go_enter Tryd.func48, Tryd.ntmps48
  go_wp2_with (go_at_call 77; (with_reducible refine (HR.out _ HH.out).mono ?_); rintro e w1 ⟨rfl, hrs, hg⟩; have HRS := Lib.hid hrs; have HG := Lib.hid (Ses.W3_grown (kind := 8) (size := 0) (big := false) (comp := false) hb hg); have hk3 := Ses.G3_of (kind := 8) (size := 0) (big := false) (comp := false) hb hg; have x0 := xb_cell hk3.k0 0; have x1 := xb_cell hk3.k0 1; have x2 := xb_cell hk3.k0 2; have x3 := xb_cell hk3.k0 3; have y0 := xb_cell hk3.k2 0; have z0 := xb_cell hk3.k1 0; have fy0 := blk_free hk3.k2 0; have fz0 := blk_free hk3.k1 0; have y1 := xb_cell hk3.k2 1; have z1 := xb_cell hk3.k1 1; have fy1 := blk_free hk3.k2 1; have fz1 := blk_free hk3.k1 1; have y2 := xb_cell hk3.k2 2; have z2 := xb_cell hk3.k1 2; have fy2 := blk_free hk3.k2 2; have fz2 := blk_free hk3.k1 2; have y3 := xb_cell hk3.k2 3; have z3 := xb_cell hk3.k1 3; have fy3 := blk_free hk3.k2 3; have fz3 := blk_free hk3.k1 3; have y4 := xb_cell hk3.k2 4; have z4 := xb_cell hk3.k1 4; have fy4 := blk_free hk3.k2 4; have fz4 := blk_free hk3.k1 4; have K2 := Lib.hid hk3; simp only [List.getElem?_toArray, List.getElem?_cons_zero, List.getElem?_cons_succ] at x0 x1 x2 x3 y0 y1 y2 y3 y4 z0 z1 z2 z3 z4; clear hrs hg hk3)
  go_region_held3 (fun w' => w'.cell? ⟨w.heap.size + 1 + 1, 1, none⟩ = some (.slice none 0 0) ∧ w'.cell? ⟨w.heap.size + 1 + 1, 2, none⟩ = some (.slice none 0 0)) (first | assumption | (refine ⟨?_, ?_⟩ <;> go_simp <;> done)) (first | (go_at_call 17; (with_reducible refine (HCn.out _ _ _).mono ?_); rintro e w2 ⟨rfl, rfl⟩))
  go_wp2
  refine bodyPost_ret (results_cell_row rfl _ _ (w.heap.size + 1) 38 #[.bool true, .slice none 0 0, .slice none 0 0, .int .i64 0, .string ⟨#[]⟩] (0, 0) _ rfl ?_ Tryd.underlying38 rfl (by kernel_rfl)) rfl ?_
  · exact Ses.got_block (by omega) K2.out.k1 _ _ _ _ _ _ _ _ _
  · refine ⟨rfl, Ses.RS.bl ?_ (below_drew (Below.refl _ _)), World.grownBy.drew ?_⟩
    · iterate 9 refine Ses.RS.far ?_ _ (by omega) (by omega)
      exact HRS.out
    · iterate 9 refine grown_far ?_ _ (by omega)
      exact HG.out
end Go.Proofs.YtdnahdddkagfhaaDoor.X
