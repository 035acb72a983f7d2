/- impl.got: a step of a reader that gives a compressed number. -/
import Derived.Test.YtdnahdddkagfhaaDoorGi
namespace Go.Proofs.YtdnahdddkagfhaaDoor.X
open Go.RowKit Go.Proofs.YtdnahdddkagfhaaDoorW.PrintWords Go.Proofs.YtdnahdddkagfhaaDoorW.PrintLast Go.Proofs.YtdnahdddkagfhaaDoorW.PrintMore
attribute [local go_sem] setCell_drewN alloc_drewN
set_option linter.unusedVariables false
set_option linter.unusedSimpArgs false
theorem Ses.got_block3 {w1 : World} {n1 n2 i1 i2 i3 i4 : Nat} {a0 a1 a2 a3 a4 : Value} {T : TypeId} (hne : n1 ≠ n2) (k1 : w1.heap[n1]? = some (.cells #[a0, a1, a2, a3, a4] T (0, 0))) (u1 u2 u3 u4 v0 v1 v2 v3 v4 : Value) :
    (((((((((w1.setCell ⟨n2, i1, none⟩ u1).setCell ⟨n2, i2, none⟩ u2).setCell ⟨n2, i3, none⟩ u3).setCell ⟨n2, i4, none⟩ u4).setCell ⟨n1, 0, none⟩ v0).setCell ⟨n1, 1, none⟩ v1).setCell ⟨n1, 2, none⟩ v2).setCell ⟨n1, 3, none⟩ v3).setCell ⟨n1, 4, none⟩ v4).drew.heap[n1]? = some (.cells #[v0, v1, v2, v3, v4] T (0, 0)) := by
  have e : ∀ W : World, W.drew.heap = W.heap := fun _ => rfl
  rw [e]
  have h0 := (blk_set_other (u := u4) (i := i4) hne).trans ((blk_set_other (u := u3) (i := i3) hne).trans ((blk_set_other (u := u2) (i := i2) hne).trans ((blk_set_other (u := u1) (i := i1) hne).trans k1)))
  have h5 := xb_set (xb_set (xb_set (xb_set (xb_set h0 0 v0) 1 v1) 2 v2) 3 v3) 4 v4
  simpa using h5
set_option maxHeartbeats 4000000 in
set_option maxRecDepth 100000 in
theorem got_four (w : World) (b g c : Nat) (l : List Int) (idx idx' : Nat) (big : Bool) (chunk num : Int) (h : Ses.RS w b g c l idx big chunk)
    (hl : ∀ W, Ses.RS W b g c l idx big chunk → Calls Tryd.prog 71 #[.pointer (some ⟨b, 0, none⟩)] W fun e w' => e = .returned (.bool false) ∧ Ses.RS w' b g c l idx big chunk ∧ W.grownBy w' (some b))
    (hi : ∀ W, Ses.RS W b g c l idx big chunk → Calls Tryd.prog 73 #[.pointer (some ⟨b, 0, none⟩), .int .i64 8, .bool true, .bool true] W fun e w' => e = .returned (.tuple #[.int .i64 num, .nilIface]) ∧ Ses.RS w' b g c l idx' big chunk ∧ W.grownBy w' (some b)) :
    Calls Tryd.prog 48 #[.pointer (some ⟨b, 0, none⟩), .agg #[.int .i64 4, .int .i64 8, .bool true, .bool true]] w fun e w' => ∃ A n cc, e = .returned (.agg #[.bool true, .slice A n cc, .slice none 0 0, .int .i64 num, .string ⟨#[]⟩]) ∧ Value.slice none 0 0 = .slice A n cc ∧ Ses.RS w' b g c l idx' big chunk ∧ w.grownBy w' (some b) := by
  have HL := Lib.hid hl
  have HI := Lib.hid hi
  have HCn := Lib.hid (fun n c W => Tryd.bytes_Clone_nil n c W)
  have HH := Lib.hid (h.bl (Ses.W3_bl w 4 8 true true))
  have hb := xb_lt h.blk
  have hg0 := h.lt
  unfold Ses.W3 at HH
  clear h hl hi
  go_enter Tryd.func48, Tryd.ntmps48
  go_wp2_with (first | (go_at_call 71; (with_reducible refine (HL.out _ HH.out).mono ?_); rintro e w1 ⟨rfl, hrs, hg⟩; have HRS1 := Lib.hid hrs; have HG1 := Lib.hid hg; have hk3 := Ses.G3_of (kind := 4) (size := 8) (big := true) (comp := true) hb hg; have x0 := xb_cell hk3.k0 0; have x1 := xb_cell hk3.k0 1; have x2 := xb_cell hk3.k0 2; have x3 := xb_cell hk3.k0 3; simp only [List.getElem?_toArray, List.getElem?_cons_zero, List.getElem?_cons_succ] at x0 x1 x2 x3; clear hrs hg hk3) | (go_at_call 73; (with_reducible refine (HI.out _ HRS1.out).mono ?_); rintro e w2 ⟨rfl, hrs, hg⟩; have HRS := Lib.hid hrs; have HG := Lib.hid (Ses.W3_grown (kind := 4) (size := 8) (big := true) (comp := true) hb (grown_trans HG1.out hg)); have hk3 := Ses.G3_of (kind := 4) (size := 8) (big := true) (comp := true) hb (grown_trans HG1.out hg); have y0 := xb_cell hk3.k2 0; have z0 := xb_cell hk3.k1 0; have fy0 := blk_free hk3.k2 0; have fz0 := blk_free hk3.k1 0; have y1 := xb_cell hk3.k2 1; have z1 := xb_cell hk3.k1 1; have fy1 := blk_free hk3.k2 1; have fz1 := blk_free hk3.k1 1; have y2 := xb_cell hk3.k2 2; have z2 := xb_cell hk3.k1 2; have fy2 := blk_free hk3.k2 2; have fz2 := blk_free hk3.k1 2; have y3 := xb_cell hk3.k2 3; have z3 := xb_cell hk3.k1 3; have fy3 := blk_free hk3.k2 3; have fz3 := blk_free hk3.k1 3; have y4 := xb_cell hk3.k2 4; have z4 := xb_cell hk3.k1 4; have fy4 := blk_free hk3.k2 4; have fz4 := blk_free hk3.k1 4;  have K2 := Lib.hid hk3; simp only [List.getElem?_toArray, List.getElem?_cons_zero, List.getElem?_cons_succ] at y0 y1 y2 y3 y4 z0 z1 z2 z3 z4; clear hrs hg hk3))
  go_region_held3 (fun w' => w'.cell? ⟨w.heap.size + 1 + 1, 1, none⟩ = some (.slice none 0 0) ∧ w'.cell? ⟨w.heap.size + 1 + 1, 2, none⟩ = some (.slice none 0 0)) (first | assumption | (refine ⟨?_, ?_⟩ <;> go_simp <;> done)) (first | (go_at_call 17; (with_reducible refine (HCn.out _ _ _).mono ?_); rintro e w9 ⟨rfl, rfl⟩))
  go_wp2
  refine bodyPost_ret (results_cell_row rfl _ _ (w.heap.size + 1) 38 #[.bool true, .slice none 0 0, .slice none 0 0, .int .i64 num, .string ⟨#[]⟩] (0, 0) _ rfl ?_ Tryd.underlying38 rfl (by kernel_rfl)) rfl ?_
  · exact Ses.got_block3 (by omega) K2.out.k1 _ _ _ _ _ _ _ _ _
  · refine ⟨none, 0, 0, rfl, rfl, Ses.RS.bl ?_ (below_drew (Below.refl _ _)), World.grownBy.drew ?_⟩
    · iterate 9 refine Ses.RS.far ?_ _ (by omega) (by omega)
      exact HRS.out
    · iterate 9 refine grown_far ?_ _ (by omega)
      exact HG.out
end Go.Proofs.YtdnahdddkagfhaaDoor.X
