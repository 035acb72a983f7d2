/- Compressed numbers without the sign; GetInt; impl.got by GetInt. -/
import Derived.Test.YtdnahdddkagfhaaDoorGu
namespace Go.Proofs.YtdnahdddkagfhaaDoor.X
open Go.RowKit Go.Proofs.YtdnahdddkagfhaaDoorW.PrintWords Go.Proofs.YtdnahdddkagfhaaDoorW.PrintLast Go.Proofs.YtdnahdddkagfhaaDoorW.PrintMore
attribute [local go_sem] setCell_drewN alloc_drewN
set_option linter.unusedVariables false
set_option linter.unusedSimpArgs false
set_option maxHeartbeats 4000000 in
set_option maxRecDepth 100000 in
theorem getInt64_plus (w : World) (b g c : Nat) (l : List Int) (idx m : Nat) (big sb : Bool) (chunk x size : Int) (h : Ses.RS w b g c l idx big chunk) (hm0 : 0 < m) (hm8 : m ≤ 8) (hx : l.getD idx 0 = x) (e1 : Go.bits .and .i64 x 128 = 0) (hxm : x = m) (hlen : idx + 1 + m ≤ l.length) (hby : ∀ y ∈ l, 0 ≤ y ∧ y ≤ 255) :
    Calls Tryd.prog 73 #[.pointer (some ⟨b, 0, none⟩), .int .i64 size, .bool true, .bool sb] w fun e w' => e = .returned (.tuple #[.int .i64 (wrap64 (Ses.beVal ((l.drop (idx + 1)).take m))), .nilIface]) ∧ Ses.RS w' b g c l (idx + 1 + m) big chunk ∧ w.grownBy w' (some b) := by
  have hr := read_ok w b g c l idx 1 big chunk h (by omega) (by omega)
  rw [show ((1 : Nat) : Int) = 1 from rfl] at hr
  have HR1 := Lib.hid hr
  have HC := Lib.hid (fun W (hw : Ses.RS W b g c l (idx + 1) big chunk) => (hw.cells idx (by omega)).trans (by rw [hx]))
  have HR2f := Lib.hid (fun W (hw : Ses.RS W b g c l (idx + 1) big chunk) => read_ok W b g c l (idx + 1) m big chunk hw hlen hm0)
  obtain ⟨xs, hxs⟩ : ∃ xs, xs = (l.drop (idx + 1)).take m := ⟨_, rfl⟩
  rw [← hxs]
  have hxl : xs.length = m := by rw [hxs, List.length_take, List.length_drop]; omega
  have hxb : ∀ y ∈ xs, 0 ≤ y ∧ y ≤ 255 := fun y hy => hby y (by rw [hxs] at hy; exact List.mem_of_mem_drop (List.mem_of_mem_take hy))
  have hinfo : (Tryd.prog.info? 5).map (·.size) = some 1 := by kernel_rfl
  have HIn : Hid (∀ W : World, Ses.RS W b g c l (idx + 1 + m) big chunk → ∀ j v, (nums .u8 xs)[j]? = some v → W.cell? ((⟨g, idx + 1, none⟩ : Addr).add j) = some v) := Lib.hid (fun W hW j v hv => by
    unfold nums at hv
    rw [List.getElem?_map] at hv
    have hj : j < xs.length := by
      by_cases hj : j < xs.length
      · exact hj
      · rw [List.getElem?_eq_none (by omega)] at hv
        cases hv
    rw [Ses.drop_cells hW.cells (idx := idx + 1) j (by omega)]
    rw [List.getElem?_eq_getElem hj] at hv
    have e : (l.drop (idx + 1)).getD j 0 = xs[j] := by
      simp only [hxs, List.getElem_take]
      rw [List.getD_eq_getElem?_getD, List.getElem?_eq_getElem]
      rfl
    rw [e]
    exact hv)
  have HCp : Hid (∀ W : World, Ses.RS W b g c l (idx + 1 + m) big chunk → (Builtin.copy_ #[22, 22] 3 #[.slice (some ⟨W.heap.size, 8 - m, none⟩) m m, .slice (some ⟨g, idx + 1, none⟩) m (c - (idx + 1))]).run Tryd.prog (W.alloc (.cells Ses.zeros8 5)) = .ok (goInt m) ((W.alloc (.cells Ses.zeros8 5)).setRow W.heap.size (nums .u8 (Ses.eight xs)).toArray)) := Lib.hid (fun W hW => by
    have hln : (nums .u8 xs).length = m := (nums_length ..).trans hxl
    have hc := run_copy_row (P := Tryd.prog) (W.alloc (.cells Ses.zeros8 5)) 22 22 3 5 W.heap.size (8 - m) m m ⟨g, idx + 1, none⟩ m (c - (idx + 1)) Ses.zeros8 5 (nums .u8 xs) Tryd.underlying22 hinfo (xb_new _ _) (by rw [hln]; exact (Nat.min_self _).symm) (fun j v hj => cell_alloc _ (HIn.out W hW j v hj)) (by rw [hln]; show 8 - m + m ≤ 8; omega) (nums_one xs)
    have he := Ses.eight_row xs (by omega)
    rw [hxl] at he
    rw [he, hln] at hc
    exact hc)
  have HBE : Hid (∀ W : World, Calls Tryd.prog 83 #[.agg #[], .slice (some ⟨W.heap.size, 0, none⟩) 8 8] ((W.alloc (.cells Ses.zeros8 5)).setRow W.heap.size (nums .u8 (Ses.eight xs)).toArray) fun e w' => e = .returned (.int .u64 (Ses.beVal xs)) ∧ Below W.heap.size W w') := Lib.hid (fun W => by
    have hW3 : Below W.heap.size W ((W.alloc (.cells Ses.zeros8 5)).setRow W.heap.size (nums .u8 (Ses.eight xs)).toArray) := below_setRow (below_alloc (Below.refl _ _) _) (Nat.le_refl _) _
    obtain ⟨W3, hW⟩ : ∃ W3, W3 = (W.alloc (.cells Ses.zeros8 5)).setRow W.heap.size (nums .u8 (Ses.eight xs)).toArray := ⟨_, rfl⟩
    rw [← hW] at hW3 ⊢
    suffices key : Calls Tryd.prog 83 #[.agg #[], .slice (some ⟨W.heap.size, 0, none⟩) 8 8] W3 (fun e w' => e = .returned (.int .u64 (Ses.beVal xs)) ∧ Below W3.heap.size W3 w') from key.mono (fun e w' h => ⟨h.1, hW3.trans (h.2.mono hW3.size)⟩)
    have hrow : W3.heap[W.heap.size]? = some (.cells (nums .u8 (Ses.eight xs)).toArray 5 (0, 0)) := by rw [hW]; exact setRow_heap _ _ Ses.zeros8 _ _ _ (xb_new _ _)
    have hc : ∀ i, i < 8 → W3.cell? ⟨W.heap.size, 0 + i, none⟩ = some (.int .u8 ((((Ses.eight xs).map fun y => UInt8.ofNat y.toNat).getD i 0).toNat : Int)) := fun i hi => by
      rw [Nat.zero_add, xb_cell hrow]
      exact Ses.eight_cells xs (by omega) i hi hxb
    have hlen8 : ((Ses.eight xs).map fun y => UInt8.ofNat y.toNat).length = 8 := by rw [List.length_map]; unfold Ses.eight; rw [List.length_append, List.length_replicate]; omega
    have hbe := Tryd.binary_BE_Uint64 W.heap.size 0 8 8 _ _ _ _ _ _ _ _ W3 (Nat.le_refl _) (hc 0 (by omega)) (hc 1 (by omega)) (hc 2 (by omega)) (hc 3 (by omega)) (hc 4 (by omega)) (hc 5 (by omega)) (hc 6 (by omega)) (hc 7 (by omega))
    unfold Ses.beVal
    generalize ((Ses.eight xs).map fun y => UInt8.ofNat y.toNat) = bs at hlen8 hbe ⊢
    match bs, hlen8 with
    | [a0, a1, a2, a3, a4, a5, a6, a7], _ => exact hbe)
  have hmk := Ses.make8
  have hx0 : 0 ≤ x ∧ x ≤ 255 := by
    rw [← hx, List.getD_eq_getElem?_getD, List.getElem?_eq_getElem (by omega)]
    exact hby _ (List.getElem_mem _)
  have hx1 := hx0.1
  have hx2 := hx0.2
  have hxw : wrap64 x = x := by unfold wrap64; omega
  generalize Ses.beVal xs = V at *
  have k0 : (0 : Int) ≤ (8 : Int) - (m : Int) := by omega
  have k1 : (8 : Int) - (m : Int) ≤ 8 := by omega
  have k2 : ((8 : Int) - (m : Int)).toNat = 8 - m := by omega
  have k3 : IntKind.i64.wrap ((8 : Int) - (m : Int)) = (8 : Int) - (m : Int) := (IntKind.wrap_i64 _).trans (by omega)
  have k4 : ((m : Int) == 0) = false := beq_eq_false_iff_ne.2 (by omega)
  have k5 : (8 = 8 - m) = False := eq_false (by omega)
  have k6 : 8 - (8 - m) = m := by omega
  subst hxm
  clear hr h hlen hx hxs hxb hby hx0
  go_enter Tryd.func73, Tryd.ntmps73
  go_wp2_with (first | (go_at_call 82; (with_reducible refine HR1.out.mono ?_); rintro e w1 ⟨rfl, hrs, hg⟩; have x0 := HC.out _ hrs; have HRS := Lib.hid hrs; have HG := Lib.hid hg; have HR2 := Lib.hid (HR2f.out _ hrs); clear hrs hg) | (go_at_call 82; (with_reducible refine HR2.out.mono ?_); rintro e w2 ⟨rfl, hrs, hg⟩; have HS2 := Lib.hid hrs; have HG2 := Lib.hid hg; have hcp := HCp.out _ hrs; clear hrs hg) | (go_at_call 83; (with_reducible refine (HBE.out _).mono ?_); rintro e w4 ⟨rfl, hb4⟩; have HB4 := Lib.hid hb4; clear hb4))
  go_ret2
  exact ⟨rfl, HS2.out.bl HB4.out, grown_bl (grown_trans HG.out HG2.out) HB4.out⟩
set_option maxHeartbeats 2000000 in
set_option maxRecDepth 100000 in
/-- The number that has no byte: 0. -/
theorem getInt64_zero (w : World) (b g c : Nat) (l : List Int) (idx : Nat) (big sb : Bool) (chunk size : Int) (h : Ses.RS w b g c l idx big chunk) (hx : l.getD idx 0 = 0) (hlen : idx + 1 ≤ l.length) :
    Calls Tryd.prog 73 #[.pointer (some ⟨b, 0, none⟩), .int .i64 size, .bool true, .bool sb] w fun e w' => e = .returned (.tuple #[.int .i64 0, .nilIface]) ∧ Ses.RS w' b g c l (idx + 1) big chunk ∧ w.grownBy w' (some b) := by
  have hr := read_ok w b g c l idx 1 big chunk h (by omega) (by omega)
  rw [show ((1 : Nat) : Int) = 1 from rfl] at hr
  have HR1 := Lib.hid hr
  have HC := Lib.hid (fun W (hw : Ses.RS W b g c l (idx + 1) big chunk) => (hw.cells idx (by omega)).trans (by rw [hx]))
  have e1 : Go.bits .and .i64 0 128 = 0 := by decide +kernel
  have e2 : Go.bits .and .i64 0 127 = 0 := by decide +kernel
  clear hr h hlen hx
  go_enter Tryd.func73, Tryd.ntmps73
  go_wp2_with (go_at_call 82; (with_reducible refine HR1.out.mono ?_); rintro e w1 ⟨rfl, hrs, hg⟩; have x0 := HC.out _ hrs; have HRS := Lib.hid hrs; have HG := Lib.hid hg; clear hrs hg)
  go_ret2
  exact ⟨rfl, HRS.out, HG.out⟩
set_option maxHeartbeats 1000000 in
set_option maxRecDepth 100000 in
theorem getInt_of (W : World) (b : Nat) (size num : Int) (c1 sb : Bool) (Q : World → Prop) (h : Calls Tryd.prog 73 #[.pointer (some ⟨b, 0, none⟩), .int .i64 size, .bool c1, .bool sb] W fun e w' => e = .returned (.tuple #[.int .i64 num, .nilIface]) ∧ Q w') :
    Calls Tryd.prog 74 #[.pointer (some ⟨b, 0, none⟩), .int .i64 size, .bool c1, .bool sb] W fun e w' => e = .returned (.tuple #[.int .i64 num, .nilIface]) ∧ Q w' := by
  have H := Lib.hid h
  clear h
  go_enter Tryd.func74, Tryd.ntmps74
  go_wp2_with (go_at_call 73; (with_reducible refine H.out.mono ?_); rintro e w1 ⟨rfl, hq⟩; have HQ := Lib.hid hq; clear hq)
  go_ret2
  exact ⟨rfl, HQ.out⟩
set_option maxHeartbeats 4000000 in
set_option maxRecDepth 100000 in
theorem got_five (w : World) (b g c : Nat) (l : List Int) (idx idx' : Nat) (big : Bool) (chunk num : Int) (h : Ses.RS w b g c l idx big chunk)
    (hl : ∀ W, Ses.RS W b g c l idx big chunk → Calls Tryd.prog 71 #[.pointer (some ⟨b, 0, none⟩)] W fun e w' => e = .returned (.bool false) ∧ Ses.RS w' b g c l idx big chunk ∧ W.grownBy w' (some b))
    (hi : ∀ W, Ses.RS W b g c l idx big chunk → Calls Tryd.prog 74 #[.pointer (some ⟨b, 0, none⟩), .int .i64 8, .bool true, .bool false] W fun e w' => e = .returned (.tuple #[.int .i64 num, .nilIface]) ∧ Ses.RS w' b g c l idx' big chunk ∧ W.grownBy w' (some b)) :
    Calls Tryd.prog 48 #[.pointer (some ⟨b, 0, none⟩), .agg #[.int .i64 5, .int .i64 8, .bool false, .bool true]] w fun e w' => ∃ A n cc, e = .returned (.agg #[.bool true, .slice A n cc, .slice none 0 0, .int .i64 num, .string ⟨#[]⟩]) ∧ Value.slice none 0 0 = .slice A n cc ∧ Ses.RS w' b g c l idx' big chunk ∧ w.grownBy w' (some b) := by
  have HL := Lib.hid hl
  have HI := Lib.hid hi
  have HCn := Lib.hid (fun n c W => Tryd.bytes_Clone_nil n c W)
  have HH := Lib.hid (h.bl (Ses.W3_bl w 5 8 false true))
  have hb := xb_lt h.blk
  have hg0 := h.lt
  unfold Ses.W3 at HH
  clear h hl hi
  go_enter Tryd.func48, Tryd.ntmps48
  go_wp2_with (first | (go_at_call 71; (with_reducible refine (HL.out _ HH.out).mono ?_); rintro e w1 ⟨rfl, hrs, hg⟩; have HRS1 := Lib.hid hrs; have HG1 := Lib.hid hg; have hk3 := Ses.G3_of (kind := 5) (size := 8) (big := false) (comp := true) hb hg; have x0 := xb_cell hk3.k0 0; have x1 := xb_cell hk3.k0 1; have x2 := xb_cell hk3.k0 2; have x3 := xb_cell hk3.k0 3; simp only [List.getElem?_toArray, List.getElem?_cons_zero, List.getElem?_cons_succ] at x0 x1 x2 x3; clear hrs hg hk3) | (go_at_call 74; (with_reducible refine (HI.out _ HRS1.out).mono ?_); rintro e w2 ⟨rfl, hrs, hg⟩; have HRS := Lib.hid hrs; have HG := Lib.hid (Ses.W3_grown (kind := 5) (size := 8) (big := false) (comp := true) hb (grown_trans HG1.out hg)); have hk3 := Ses.G3_of (kind := 5) (size := 8) (big := false) (comp := true) hb (grown_trans HG1.out hg); have y0 := xb_cell hk3.k2 0; have z0 := xb_cell hk3.k1 0; have fy0 := blk_free hk3.k2 0; have fz0 := blk_free hk3.k1 0; have y1 := xb_cell hk3.k2 1; have z1 := xb_cell hk3.k1 1; have fy1 := blk_free hk3.k2 1; have fz1 := blk_free hk3.k1 1; have y2 := xb_cell hk3.k2 2; have z2 := xb_cell hk3.k1 2; have fy2 := blk_free hk3.k2 2; have fz2 := blk_free hk3.k1 2; have y3 := xb_cell hk3.k2 3; have z3 := xb_cell hk3.k1 3; have fy3 := blk_free hk3.k2 3; have fz3 := blk_free hk3.k1 3; have y4 := xb_cell hk3.k2 4; have z4 := xb_cell hk3.k1 4; have fy4 := blk_free hk3.k2 4; have fz4 := blk_free hk3.k1 4;  have K2 := Lib.hid hk3; simp only [List.getElem?_toArray, List.getElem?_cons_zero, List.getElem?_cons_succ] at y0 y1 y2 y3 y4 z0 z1 z2 z3 z4; clear hrs hg hk3))
  go_region_held3 (fun w' => w'.cell? ⟨w.heap.size + 1 + 1, 1, none⟩ = some (.slice none 0 0) ∧ w'.cell? ⟨w.heap.size + 1 + 1, 2, none⟩ = some (.slice none 0 0)) (first | assumption | (refine ⟨?_, ?_⟩ <;> go_simp <;> done)) (first | (go_at_call 17; (with_reducible refine (HCn.out _ _ _).mono ?_); rintro e w9 ⟨rfl, rfl⟩))
  go_wp2
  refine bodyPost_ret (results_cell_row rfl _ _ (w.heap.size + 1) 38 #[.bool true, .slice none 0 0, .slice none 0 0, .int .i64 num, .string ⟨#[]⟩] (0, 0) _ rfl ?_ Tryd.underlying38 rfl (by kernel_rfl)) rfl ?_
  · exact Ses.got_block3 (by omega) K2.out.k1 _ _ _ _ _ _ _ _ _
  · refine ⟨none, 0, 0, rfl, rfl, Ses.RS.bl ?_ (below_drew (Below.refl _ _)), World.grownBy.drew ?_⟩
    · iterate 9 refine Ses.RS.far ?_ _ (by omega) (by omega)
      exact HRS.out
    · iterate 9 refine grown_far ?_ _ (by omega)
      exact HG.out
end Go.Proofs.YtdnahdddkagfhaaDoor.X
