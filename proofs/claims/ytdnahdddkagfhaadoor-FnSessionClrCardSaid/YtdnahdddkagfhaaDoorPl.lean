/- A session's writer: the first byte of an empty buffer, a short CLR, impl.SessionPut of one. -/
import Derived.Test.YtdnahdddkagfhaaDoorBuw
import Derived.Test.YtdnahdddkagfhaaDoorSg
namespace Go.Proofs.YtdnahdddkagfhaaDoor.X
open Go.RowKit Go.Proofs.YtdnahdddkagfhaaDoorW.PrintWords Go.Proofs.YtdnahdddkagfhaaDoorW.PrintMore
attribute [local go_sem] setCell_drewN alloc_drewN
set_option linter.unusedVariables false
set_option linter.unusedSimpArgs false
theorem arr_self {cs : Array Value} {q : Nat} {v : Value} (h : q < cs.size) : (cs.setIfInBounds q v)[q]? = some v := by simp [h]
theorem arr_first {M : Array Value} (h : M.size = 64) : ∃ u, M[0]? = some u := ⟨M[0], Array.getElem?_eq_getElem (by omega)⟩
set_option maxHeartbeats 2000000 in
set_option maxRecDepth 100000 in
/-- An empty buffer grows: a new row of 64 bytes. -/
theorem grow_nil (b q : Nat) (T : TypeId) (cs : Array Value) (w : World) (hbk : w.heap[b]? = some (.cells cs T (0, 0))) (h0 : cs[q]? = some (.slice none 0 0)) (h1 : cs[q + 1]? = some (.int .i64 0)) :
    Calls Tryd.prog 81 #[.pointer (some ⟨b, q, none⟩), .int .i64 1] w fun e w' => e = .returned (.int .i64 0) ∧ ∃ (g : Nat) (M : Array Value), M.size = 64 ∧ w'.heap[b]? = some (.cells (cs.setIfInBounds q (.slice (some ⟨g, 0, none⟩) 1 64)) T (0, 0)) ∧ w'.heap[g]? = some (.cells M 5 (0, 0)) ∧ w.heap.size ≤ g ∧ w.grownBy w' (some b) := by
  have hb := xb_lt hbk
  have c0 := (xb_cell hbk q).trans h0
  have c1 := (xb_cell hbk (q + 1)).trans h1
  have f0 := blk_free hbk q
  have HBk := Lib.hid hbk
  clear hbk h0 h1
  have hi5 : (Tryd.prog.info? 5).map (fun i => (i.zero, i.size, i.bytes)) = some (some (.int .u8 0), 1, 1) := by kernel_rfl
  obtain ⟨i0, hi, hz0, hz1, hz2⟩ := info_parts hi5
  obtain ⟨M, hM⟩ : ∃ M, M = madeCells (Value.int .u8 0).cells ((64 : Int).toNat * i0.size) := ⟨_, rfl⟩
  have hMs : M.size = 64 := by rw [hM, size_madeCells, hz1]; rfl
  have hmk : ∀ W : World, (Instr.makeSlice 22 (.int .i64 1) (.int .i64 64)).run Tryd.prog W = .ok (.slice (some ⟨W.heap.size, 0, none⟩) 1 64) (W.alloc (.cells M 5)) := fun W => by
    have h := run_makeSlice (P := Tryd.prog) W 22 5 i0 (.int .u8 0) Tryd.underlying22 hi hz0 .i64 .i64 1 64 (by omega) (by omega) (by rw [hz1]; decide) (by rw [hz2]; decide) (by decide)
    rw [← hM] at h
    simpa using h
  clear hM
  have HL := Lib.hid (fun W h0 h1 => bufLen b q 0 0 none W h0 h1 (by omega))
  have HT : Hid (∀ W : World, W.cell? ⟨b, q, none⟩ = some (.slice none 0 0) → Calls Tryd.prog 80 #[.pointer (some ⟨b, q, none⟩), .int .i64 1] W fun e w' => e = .returned (.tuple #[.int .i64 0, .bool false]) ∧ w' = W) := Lib.hid (fun W h0 => Tryd.Buffer_tryGrow_none_at b q none 0 0 1 W h0 (Nat.le_refl _) (by unfold maxLen; omega) (by omega))
  have hq : ∀ W : World, (binOp .eql 22 (.slice none 0 0) (.slice none 0 0)).run Tryd.prog W = .ok (.bool true) W := fun W => Lib.run_eql_slice_nil_nil W 0 0 Tryd.underlying22
  have c0a : ∀ n o, ((w.drewN n).alloc o).cell? ⟨b, q, none⟩ = some (.slice none 0 0) := fun n o => cell_alloc o c0
  have f0a : ∀ n o, ((w.drewN n).alloc o).frozen? ⟨b, q, none⟩ = false := fun n o => (World.frozen?_of_block (a := ⟨b, q, none⟩) (Below.heap_alloc (w.drewN n) o b hb)).trans f0
  have HM := Lib.hid hMs
  clear hi5 hi hz0 hz1 hz2
  go_enter Tryd.func81, Tryd.ntmps81
  go_wp2_with (first | (go_at_call 86; (with_reducible refine (HL.out _ c0 c1).mono ?_); rintro e w1 ⟨rfl, n1, rfl⟩) | (go_at_call 80; (with_reducible refine (HT.out _ ?h0).mono ?_); (case h0 => exact c0); rintro e w2 ⟨rfl, rfl⟩))
  go_ret
  refine ⟨rfl, w.heap.size, M, HM.out, ?_, ?_, Nat.le_refl _, ?_⟩
  · exact xb_alloc (xb_set HBk.out q _)
  · have hx := xb_new (w.setCell ⟨b, q, none⟩ (.slice (some ⟨w.heap.size, 0, none⟩) 1 64)) (.cells M 5)
    rw [World.size_setCell] at hx
    exact hx
  · exact grown_bl (grown_alloc (grown_set (grown_refl w (some b))) _) (bl_drewN _ _)
set_option maxHeartbeats 2000000 in
set_option maxRecDepth 100000 in
/-- The first byte of an empty buffer. -/
theorem writeByte_nil (b q : Nat) (T : TypeId) (cs : Array Value) (lr : Int) (w : World) (x : Int) (hbk : w.heap[b]? = some (.cells cs T (0, 0))) (h0 : cs[q]? = some (.slice none 0 0)) (h1 : cs[q + 1]? = some (.int .i64 0)) (h2 : cs[q + 2]? = some (.int .i8 lr)) :
    Calls Tryd.prog 59 #[.pointer (some ⟨b, q, none⟩), .int .u8 x] w fun e w' => ∃ g cur, e = .returned .nilIface ∧ w'.heap[b]? = some (.cells ((cs.setIfInBounds (q + 2) (.int .i8 0)).setIfInBounds q (.slice (some ⟨g, 0, none⟩) 1 64)) T (0, 0)) ∧ w'.heap[g]? = some (.cells cur 5 (0, 0)) ∧ cur.size = 64 ∧ cur[0]? = some (.int .u8 x) ∧ w.heap.size ≤ g ∧ g ≠ b ∧ w.grownBy w' (some b) := by
  have hb := xb_lt hbk
  have c2 := (xb_cell hbk (q + 2)).trans h2
  have f2 := blk_free hbk (q + 2)
  have k0 : (w.setCell ⟨b, q + 2, none⟩ (.int .i8 0)).cell? ⟨b, q, none⟩ = some (.slice none 0 0) := (set_in (by omega)).trans ((xb_cell hbk q).trans h0)
  have k1 : (w.setCell ⟨b, q + 2, none⟩ (.int .i8 0)).cell? ⟨b, q + 1, none⟩ = some (.int .i64 0) := (set_in (by omega)).trans ((xb_cell hbk (q + 1)).trans h1)
  have HK := Lib.hid (xb_set hbk (q + 2) (.int .i8 0))
  have HT : Hid (Calls Tryd.prog 80 #[.pointer (some ⟨b, q, none⟩), .int .i64 1] (w.setCell ⟨b, q + 2, none⟩ (.int .i8 0)) fun e w' => e = .returned (.tuple #[.int .i64 0, .bool false]) ∧ w' = w.setCell ⟨b, q + 2, none⟩ (.int .i8 0)) := Lib.hid (Tryd.Buffer_tryGrow_none_at b q none 0 0 1 _ k0 (Nat.le_refl _) (by unfold maxLen; omega) (by omega))
  have HGr := Lib.hid (grow_nil b q T (cs.setIfInBounds (q + 2) (.int .i8 0)) (w.setCell ⟨b, q + 2, none⟩ (.int .i8 0)) HK.out (by rw [Array.getElem?_setIfInBounds_ne (by omega)]; exact h0) (by rw [Array.getElem?_setIfInBounds_ne (by omega)]; exact h1))
  have hqs : q < (cs.setIfInBounds (q + 2) (.int .i8 0)).size := by
    have := (Array.getElem?_eq_some_iff.1 h0).1
    simpa using this
  clear k0 k1
  go_enter Tryd.func59, Tryd.ntmps59
  go_wp2_with (first | (go_at_call 80; (with_reducible refine HT.out.mono ?_); rintro e w1 ⟨rfl, rfl⟩) | (go_at_call 81; (with_reducible refine HGr.out.mono ?_); rintro e w2 ⟨rfl, g, M, hM, hb2, hg2, hgs, hgr⟩; (rw [World.size_setCell] at hgs); (have hgb : ¬ g = b := by omega); have cq := (xb_cell hb2 q).trans (arr_self hqs); obtain ⟨u0, hu0⟩ := arr_first hM; have cg := (xb_cell hg2 0).trans hu0; have fg := blk_free hg2 0; have HB2 := Lib.hid hb2; have HG2 := Lib.hid hg2; have HGr2 := Lib.hid hgr; have HM := Lib.hid hM; clear hb2 hg2 hgr))
  go_ret
  refine ⟨g, M.setIfInBounds 0 (.int .u8 x), rfl, (blk_set_other (by omega)).trans HB2.out, xb_set HG2.out 0 _, by simpa using HM.out, arr_self (by have := HM.out; omega), hgs, hgb, grown_far (grown_trans (grown_set (grown_refl w (some b))) HGr2.out) _ hgs⟩
theorem grown_kp2 {a w w' : World} {b g : Nat} (h : a.grownBy w (some b)) (k : Kp2 w w' b g) (hg : a.heap.size ≤ g) : a.grownBy w' (some b) :=
  ⟨k.os.trans h.os, k.tape.trans h.tape, k.output.trans h.output, Nat.le_trans h.size k.size, fun i hi hr => (k.block i (Nat.lt_of_lt_of_le hi h.size) (fun e => hr (by rw [e])) (by omega)).trans (h.block i hi hr)⟩
theorem take_one {cur : Array Value} {u : Value} (h : cur[0]? = some u) : cur.toList.take 1 = [u] := by
  have h' : cur.toList[0]? = some u := by rw [Array.getElem?_toList]; exact h
  cases hc : cur.toList with
  | nil => rw [hc] at h'; simp at h'
  | cons a l => rw [hc] at h'; simp at h'; rw [h']; rfl
theorem write_two (b g cp : Nat) (cs cur : Array Value) (x y : Int) (a : Addr) (w1 : World) (hb1 : w1.heap[b]? = some (.cells ((cs.setIfInBounds (1 + 2) (.int .i8 0)).setIfInBounds 1 (.slice (some ⟨g, 0, none⟩) 1 64)) 82 (0, 0))) (hsz : 3 < cs.size) (hg1 : w1.heap[g]? = some (.cells cur 5 (0, 0))) (hgb : g ≠ b) (hcu : cur.size = 64) (hc0 : cur[0]? = some (.int .u8 2))
    (hsrc : ∀ j v, (nums .u8 [x, y])[j]? = some v → w1.cell? (a.add j) = some v) (hab : a.block ≠ b) :
    Calls Tryd.prog 58 #[.pointer (some ⟨b, 1, none⟩), .slice (some a) 2 cp] w1 (RetWrite b 1 g 82 ((cs.setIfInBounds (1 + 2) (.int .i8 0)).setIfInBounds 1 (.slice (some ⟨g, 0, none⟩) 1 64)) 1 2 (nums .u8 [2, x, y]) w1) := by
  have h0 : ((cs.setIfInBounds (1 + 2) (.int .i8 0)).setIfInBounds 1 (.slice (some ⟨g, 0, none⟩) 1 64))[1]? = some (.slice (some ⟨g, 0, none⟩) 1 64) := arr_self (by rw [Array.size_setIfInBounds]; omega)
  have h2 : ((cs.setIfInBounds (1 + 2) (.int .i8 0)).setIfInBounds 1 (.slice (some ⟨g, 0, none⟩) 1 64))[1 + 2]? = some (.int .i8 0) := by
    rw [Array.getElem?_setIfInBounds_ne (by omega)]
    exact arr_self hsz
  exact bufWriteRowFits b 1 g 1 64 82 _ cur 0 a cp [x, y] w1 hb1 h0 h2 hg1 hgb hcu (by omega) (by unfold maxLen; omega) (nums .u8 [2, x, y]) (by rw [take_one hc0]; rfl) (by simp) hsrc hab (by simp)
set_option maxHeartbeats 2000000 in
set_option maxRecDepth 100000 in
/-- The CLR of two bytes behind nothing. -/
theorem putClr_two (b : Nat) (cs : Array Value) (lr : Int) (w : World) (x y : Int) (a : Addr) (cp : Nat) (hbk : w.heap[b]? = some (.cells cs 82 (0, 0))) (h0 : cs[1]? = some (.slice none 0 0)) (h1 : cs[2]? = some (.int .i64 0)) (h2 : cs[3]? = some (.int .i8 lr))
    (hsrc : ∀ j v, (nums .u8 [x, y])[j]? = some v → w.cell? (a.add j) = some v) (hab : a.block ≠ b) (hal : a.block < w.heap.size) :
    Calls Tryd.prog 41 #[.pointer (some ⟨b, 0, none⟩), .slice (some a) 2 cp] w fun e w' => ∃ g cap cur cs', e = .returned (.tuple #[]) ∧ w'.heap[b]? = some (.cells cs' 82 (0, 0)) ∧ cs'[1]? = some (.slice (some ⟨g, 0, none⟩) 3 cap) ∧ cs'[2]? = some (.int .i64 0) ∧ w'.heap[g]? = some (.cells cur 5 (0, 0)) ∧ 3 ≤ cap ∧ cap ≤ maxLen ∧ cur.size = cap ∧ cur.toList.take 3 = nums .u8 [2, x, y] ∧ g ≠ b ∧ w.grownBy w' (some b) := by
  have HW := Lib.hid (writeByte_nil b 1 82 cs lr w 2 hbk h0 h1 h2)
  have hcs : 3 < cs.size := (Array.getElem?_eq_some_iff.1 h2).1
  have HH1 := Lib.hid h1
  have hbl := xb_lt hbk
  have HSrc : Hid (∀ W : World, w.grownBy W (some b) → ∀ j v, (nums .u8 [x, y])[j]? = some v → W.cell? (a.add j) = some v) := Lib.hid (fun W hW j v hv => by
    have hbk : (a.add j).block = a.block := by unfold Addr.add; split <;> rfl
    have e := hW.block a.block hal (fun e => hab (Option.some.inj e))
    rw [← hbk] at e
    exact (World.cell?_of_block (a := a.add j) e).trans (hsrc j v hv))
  clear hbk h0 h1 h2 hsrc
  go_enter Tryd.func41, Tryd.ntmps41
  go_wp2_with (first | (go_at_call 59; (with_reducible refine HW.out.mono ?_); rintro e w1 ⟨g, cur, rfl, hb1, hg1, hcu, hc0, hgs, hgb, hgr⟩; (have hwr := write_two b g cp cs cur x y a w1 hb1 hcs hg1 hgb hcu hc0 (HSrc.out _ hgr) hab); have HWr := Lib.hid hwr; have HGr := Lib.hid hgr; clear hwr hb1 hg1 hgr) | (go_at_call 58; (with_reducible refine HWr.out.mono ?_); rintro e w2 ⟨g', cap, cur', rfl, hb2, hg2, hcu2, hcm, hlc, hta, hgo, hkp⟩))
  go_end0
  have hz := HGr.out.size
  refine ⟨g', cap, cur', _, rfl, hb2, arr_self (by simp only [Array.size_setIfInBounds]; omega), ?_, hg2, hlc, hcm, hcu2, hta, ?_, grown_kp2 HGr.out hkp hgs⟩
  · rw [Array.getElem?_setIfInBounds_ne (by omega), Array.getElem?_setIfInBounds_ne (by omega), Array.getElem?_setIfInBounds_ne (by omega), Array.getElem?_setIfInBounds_ne (by omega)]
    exact HH1.out
  · rcases hgo with rfl | hgo
    · exact hgb
    · omega
set_option maxHeartbeats 1000000 in
set_option maxRecDepth 100000 in
theorem output_ok (b g cap : Nat) (w : World) (c0 : w.cell? ⟨b, 1, none⟩ = some (.slice (some ⟨g, 0, none⟩) 3 cap)) (c1 : w.cell? ⟨b, 2, none⟩ = some (.int .i64 0)) (hlc : 3 ≤ cap) (hc : cap ≤ 9223372036854775807) :
    Calls Tryd.prog 47 #[.pointer (some ⟨b, 0, none⟩)] w fun e w' => e = .returned (.slice (some ⟨g, 0, none⟩) 3 cap) ∧ ∃ n, w' = w.drewN n := by
  have HB := Lib.hid (bufBytes b 1 g 3 cap w c0 c1 hlc hc)
  go_enter Tryd.func47, Tryd.ntmps47
  go_wp2_with (go_at_call 46; (with_reducible refine HB.out.mono ?_); rintro e w1 ⟨rfl, n1, rfl⟩)
  go_ret
  exact ⟨rfl, n1, rfl⟩
end Go.Proofs.YtdnahdddkagfhaaDoor.X
