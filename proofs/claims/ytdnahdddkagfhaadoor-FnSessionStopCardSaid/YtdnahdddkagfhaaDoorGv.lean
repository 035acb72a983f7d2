/- impl.got of a number with a sign, compressed, or of a size. -/
import Derived.Test.YtdnahdddkagfhaaDoorTz
namespace Go.Proofs.YtdnahdddkagfhaaDoor.X
open Go.RowKit Go.Proofs.YtdnahdddkagfhaaDoorW.PrintWords Go.Proofs.YtdnahdddkagfhaaDoorW.PrintLast Go.Proofs.YtdnahdddkagfhaaDoorW.PrintMore
attribute [local go_sem] setCell_drewN alloc_drewN
set_option linter.unusedVariables false
set_option linter.unusedSimpArgs false
set_option maxHeartbeats 4000000 in
set_option maxRecDepth 100000 in
/-- A compressed number. -/
theorem got_packed (w : World) (b g c : Nat) (l : List Int) (idx idx' : Nat) (big : Bool) (chunk num size : Int) (sb : Bool) (hsz : 0 ≤ size) (h : Ses.RS w b g c l idx big chunk)
    (hl : ∀ W, Ses.RS W b g c l idx big chunk → Calls Tryd.prog 71 #[.pointer (some ⟨b, 0, none⟩)] W fun e w' => e = .returned (.bool false) ∧ Ses.RS w' b g c l idx big chunk ∧ W.grownBy w' (some b))
    (hi : ∀ W, Ses.RS W b g c l idx big chunk → Calls Tryd.prog 73 #[.pointer (some ⟨b, 0, none⟩), .int .i64 size, .bool true, .bool sb] W fun e w' => e = .returned (.tuple #[.int .i64 num, .nilIface]) ∧ Ses.RS w' b g c l idx' big chunk ∧ W.grownBy w' (some b)) :
    Calls Tryd.prog 48 #[.pointer (some ⟨b, 0, none⟩), .agg #[.int .i64 4, .int .i64 size, .bool sb, .bool true]] w (Ses.GotP b g c l idx' big chunk [] [] num w) := by
  have HL := Lib.hid hl
  have HI := Lib.hid hi
  have HCn := Lib.hid (fun n c W => Tryd.bytes_Clone_nil n c W)
  have HH := Lib.hid (h.bl (Ses.W3_bl w 4 size sb true))
  have hb := xb_lt h.blk
  have hg0 := h.lt
  unfold Ses.W3 at HH
  have tneg : decide (size < 0) = false := decide_eq_false (by omega)
  clear h hl hi hsz
  go_enter Tryd.func48, Tryd.ntmps48
  go_wp2_with (first | (go_at_call 71; (with_reducible refine (HL.out _ HH.out).mono ?_); rintro e w1 ⟨rfl, hrs, hg⟩; have HRS1 := Lib.hid hrs; have HG1 := Lib.hid hg; have hk3 := Ses.G3_of (kind := 4) (size := size) (big := sb) (comp := true) hb hg; have x0 := xb_cell hk3.k0 0; have x1 := xb_cell hk3.k0 1; have x2 := xb_cell hk3.k0 2; have x3 := xb_cell hk3.k0 3; simp only [List.getElem?_toArray, List.getElem?_cons_zero, List.getElem?_cons_succ] at x0 x1 x2 x3; clear hrs hg hk3) | (go_at_call 73; (with_reducible refine (HI.out _ HRS1.out).mono ?_); rintro e w2 ⟨rfl, hrs, hg⟩; have HRS := Lib.hid hrs; have HG := Lib.hid (Ses.W3_grown (kind := 4) (size := size) (big := sb) (comp := true) hb (grown_trans HG1.out hg)); have hk3 := Ses.G3_of (kind := 4) (size := size) (big := sb) (comp := true) hb (grown_trans HG1.out hg); have y0 := xb_cell hk3.k2 0; have z0 := xb_cell hk3.k1 0; have fy0 := blk_free hk3.k2 0; have fz0 := blk_free hk3.k1 0; have y1 := xb_cell hk3.k2 1; have z1 := xb_cell hk3.k1 1; have fy1 := blk_free hk3.k2 1; have fz1 := blk_free hk3.k1 1; have y2 := xb_cell hk3.k2 2; have z2 := xb_cell hk3.k1 2; have fy2 := blk_free hk3.k2 2; have fz2 := blk_free hk3.k1 2; have y3 := xb_cell hk3.k2 3; have z3 := xb_cell hk3.k1 3; have fy3 := blk_free hk3.k2 3; have fz3 := blk_free hk3.k1 3; have y4 := xb_cell hk3.k2 4; have z4 := xb_cell hk3.k1 4; have fy4 := blk_free hk3.k2 4; have fz4 := blk_free hk3.k1 4;  have K2 := Lib.hid hk3; simp only [List.getElem?_toArray, List.getElem?_cons_zero, List.getElem?_cons_succ] at y0 y1 y2 y3 y4 z0 z1 z2 z3 z4; clear hrs hg hk3))
  go_region_held3 (fun w' => w'.cell? ⟨w.heap.size + 1 + 1, 1, none⟩ = some (.slice none 0 0) ∧ w'.cell? ⟨w.heap.size + 1 + 1, 2, none⟩ = some (.slice none 0 0)) (first | assumption | (refine ⟨?_, ?_⟩ <;> go_simp <;> done)) (first | (go_at_call 17; (with_reducible refine (HCn.out _ _ _).mono ?_); rintro e w9 ⟨rfl, rfl⟩))
  go_wp2
  refine bodyPost_ret (results_cell_row rfl _ _ (w.heap.size + 1) 38 #[.bool true, .slice none 0 0, .slice none 0 0, .int .i64 num, .string ⟨#[]⟩] (0, 0) _ rfl ?_ Tryd.underlying38 rfl (by kernel_rfl)) rfl ?_
  · exact Ses.got_block3 (by omega) K2.out.k1 _ _ _ _ _ _ _ _ _
  · refine ⟨none, 0, 0, none, 0, 0, rfl, Kd.R_nil _ _ _ _ _, Kd.R_nil _ _ _ _ _, Ses.RS.bl ?_ (below_drew (Below.refl _ _)), World.grownBy.drew ?_⟩
    · iterate 9 refine Ses.RS.far ?_ _ (by omega) (by omega)
      exact HRS.out
    · iterate 9 refine grown_far ?_ _ (by omega)
      exact HG.out
set_option maxHeartbeats 4000000 in
set_option maxRecDepth 100000 in
/-- A number of a size. -/
theorem got_sized (w : World) (b g c : Nat) (l : List Int) (idx idx' m : Nat) (sb big : Bool) (chunk num : Int) (h : Ses.RS w b g c l idx big chunk) (hm0 : 0 < m) (hm8 : m ≤ 8)
    (hi : ∀ W, Ses.RS W b g c l idx big chunk → Calls Tryd.prog 73 #[.pointer (some ⟨b, 0, none⟩), .int .i64 m, .bool false, .bool sb] W fun e w' => e = .returned (.tuple #[.int .i64 num, .nilIface]) ∧ Ses.RS w' b g c l idx' big chunk ∧ W.grownBy w' (some b)) :
    Calls Tryd.prog 48 #[.pointer (some ⟨b, 0, none⟩), .agg #[.int .i64 4, .int .i64 m, .bool sb, .bool false]] w (Ses.GotP b g c l idx' big chunk [] [] num w) := by
  have HI := Lib.hid hi
  have HCn := Lib.hid (fun n c W => Tryd.bytes_Clone_nil n c W)
  have HH := Lib.hid (h.bl (Ses.W3_bl w 4 (m : Int) sb false))
  have hb := xb_lt h.blk
  have hg0 := h.lt
  have dm0 : decide ((m : Int) < 0) = false := decide_eq_false (by omega)
  have dm1 : decide ((m : Int) < 1) = false := decide_eq_false (by omega)
  have dm2 : decide ((8 : Int) < (m : Int)) = false := decide_eq_false (by omega)
  unfold Ses.W3 at HH
  clear h hi
  go_enter Tryd.func48, Tryd.ntmps48
  go_wp2_with (go_at_call 73; (with_reducible refine (HI.out _ HH.out).mono ?_); rintro e w2 ⟨rfl, hrs, hg⟩; have HRS := Lib.hid hrs; have HG := Lib.hid (Ses.W3_grown (kind := 4) (size := (m : Int)) (big := sb) (comp := false) hb hg); have hk3 := Ses.G3_of (kind := 4) (size := (m : Int)) (big := sb) (comp := false) hb hg; have y0 := xb_cell hk3.k2 0; have z0 := xb_cell hk3.k1 0; have fy0 := blk_free hk3.k2 0; have fz0 := blk_free hk3.k1 0; have y1 := xb_cell hk3.k2 1; have z1 := xb_cell hk3.k1 1; have fy1 := blk_free hk3.k2 1; have fz1 := blk_free hk3.k1 1; have y2 := xb_cell hk3.k2 2; have z2 := xb_cell hk3.k1 2; have fy2 := blk_free hk3.k2 2; have fz2 := blk_free hk3.k1 2; have y3 := xb_cell hk3.k2 3; have z3 := xb_cell hk3.k1 3; have fy3 := blk_free hk3.k2 3; have fz3 := blk_free hk3.k1 3; have y4 := xb_cell hk3.k2 4; have z4 := xb_cell hk3.k1 4; have fy4 := blk_free hk3.k2 4; have fz4 := blk_free hk3.k1 4;  have K2 := Lib.hid hk3; simp only [List.getElem?_toArray, List.getElem?_cons_zero, List.getElem?_cons_succ] at y0 y1 y2 y3 y4 z0 z1 z2 z3 z4; clear hrs hg hk3)
  go_region_held3 (fun w' => w'.cell? ⟨w.heap.size + 1 + 1, 1, none⟩ = some (.slice none 0 0) ∧ w'.cell? ⟨w.heap.size + 1 + 1, 2, none⟩ = some (.slice none 0 0)) (first | assumption | (refine ⟨?_, ?_⟩ <;> go_simp <;> done)) (first | (go_at_call 17; (with_reducible refine (HCn.out _ _ _).mono ?_); rintro e w9 ⟨rfl, rfl⟩))
  go_wp2
  refine bodyPost_ret (results_cell_row rfl _ _ (w.heap.size + 1) 38 #[.bool true, .slice none 0 0, .slice none 0 0, .int .i64 num, .string ⟨#[]⟩] (0, 0) _ rfl ?_ Tryd.underlying38 rfl (by kernel_rfl)) rfl ?_
  · exact Ses.got_block3 (by omega) K2.out.k1 _ _ _ _ _ _ _ _ _
  · refine ⟨none, 0, 0, none, 0, 0, rfl, Kd.R_nil _ _ _ _ _, Kd.R_nil _ _ _ _ _, Ses.RS.bl ?_ (below_drew (Below.refl _ _)), World.grownBy.drew ?_⟩
    · iterate 9 refine Ses.RS.far ?_ _ (by omega) (by omega)
      exact HRS.out
    · iterate 9 refine grown_far ?_ _ (by omega)
      exact HG.out
end Go.Proofs.YtdnahdddkagfhaaDoor.X
