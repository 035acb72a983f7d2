/- A buffer that is written, in a block of more cells: WriteByte and Write, whatever it holds. -/
import Derived.Test.YtdnahdddkagfhaaDoorPl
namespace Go.Proofs.YtdnahdddkagfhaaDoor.X
open Go.RowKit Go.Proofs.YtdnahdddkagfhaaDoorW.PrintWords Go.Proofs.YtdnahdddkagfhaaDoorW.PrintMore
attribute [local go_sem] setCell_drewN alloc_drewN
set_option linter.unusedVariables false
set_option linter.unusedSimpArgs false
set_option maxHeartbeats 2000000 in
set_option maxRecDepth 100000 in
/-- An empty buffer grows by up to 64 bytes: a new row of 64 bytes. -/
theorem grow_nil_small (b q n : Nat) (T : TypeId) (cs : Array Value) (w : World) (hbk : w.heap[b]? = some (.cells cs T (0, 0))) (h0 : cs[q]? = some (.slice none 0 0)) (h1 : cs[q + 1]? = some (.int .i64 0)) (hn : 1 ≤ n) (h64 : n ≤ 64) :
    Calls Tryd.prog 81 #[.pointer (some ⟨b, q, none⟩), .int .i64 n] w (RetGrow b q T cs 0 n [] w) := by
  have hb := xb_lt hbk
  have c0 := (xb_cell hbk q).trans h0
  have c1 := (xb_cell hbk (q + 1)).trans h1
  have f0 := blk_free hbk q
  have f1 := blk_free hbk (q + 1)
  have HBk := Lib.hid hbk
  clear hbk h0 h1
  have hi5 : (Tryd.prog.info? 5).map (fun i => (i.zero, i.size, i.bytes)) = some (some (.int .u8 0), 1, 1) := by kernel_rfl
  obtain ⟨i0, hi, hz0, hz1, hz2⟩ := info_parts hi5
  obtain ⟨M, hM⟩ : ∃ M, M = madeCells (Value.int .u8 0).cells ((64 : Int).toNat * i0.size) := ⟨_, rfl⟩
  have hMs : M.size = 64 := by rw [hM, size_madeCells, hz1]; rfl
  have hmk : ∀ W : World, (Instr.makeSlice 22 (.int .i64 n) (.int .i64 64)).run Tryd.prog W = .ok (.slice (some ⟨W.heap.size, 0, none⟩) n 64) (W.alloc (.cells M 5)) := fun W => by
    have h := run_makeSlice (P := Tryd.prog) W 22 5 i0 (.int .u8 0) Tryd.underlying22 hi hz0 .i64 .i64 n 64 (by omega) (by omega) (by rw [hz1]; decide) (by rw [hz2]; decide) (by decide)
    rw [← hM] at h
    simpa using h
  clear hM
  have HL := Lib.hid (fun W h0 h1 => bufLen b q 0 0 none W h0 h1 (by omega))
  have HT : Hid (∀ W : World, W.cell? ⟨b, q, none⟩ = some (.slice none 0 0) → Calls Tryd.prog 80 #[.pointer (some ⟨b, q, none⟩), .int .i64 n] W fun e w' => e = .returned (.tuple #[.int .i64 0, .bool false]) ∧ w' = W) := Lib.hid (fun W h0 => bufNoRoom b q 0 0 n none W h0 (Nat.le_refl _) (by omega) (by omega) (by omega))
  have hq : ∀ W : World, (binOp .eql 22 (.slice none 0 0) (.slice none 0 0)).run Tryd.prog W = .ok (.bool true) W := fun W => Lib.run_eql_slice_nil_nil W 0 0 Tryd.underlying22
  have c0a : ∀ n o, ((w.drewN n).alloc o).cell? ⟨b, q, none⟩ = some (.slice none 0 0) := fun n o => cell_alloc o c0
  have f0a : ∀ n o, ((w.drewN n).alloc o).frozen? ⟨b, q, none⟩ = false := fun n o => (World.frozen?_of_block (a := ⟨b, q, none⟩) (Below.heap_alloc (w.drewN n) o b hb)).trans f0
  have HM := Lib.hid hMs
  clear hi5 hi hz0 hz1 hz2
  go_enter Tryd.func81, Tryd.ntmps81
  go_wp2_with (first | (go_at_call 86; (with_reducible refine (HL.out _ c0 c1).mono ?_); rintro e w1 ⟨rfl, n1, rfl⟩) | (go_at_call 80; (with_reducible refine (HT.out _ ?h0).mono ?_); (case h0 => exact c0); rintro e w2 ⟨rfl, rfl⟩))
  go_ret
  refine ⟨w.heap.size, 64, M, rfl, ?_, ?_, HM.out, by unfold maxLen; omega, by omega, rfl, Nat.le_refl _, ?_⟩
  · rw [Nat.zero_add]
    exact xb_alloc (xb_set HBk.out q _)
  · have hx := xb_new (w.setCell ⟨b, q, none⟩ (.slice (some ⟨w.heap.size, 0, none⟩) n 64)) (.cells M 5)
    rw [World.size_setCell] at hx
    exact hx
  · exact grown_bl (grown_alloc (grown_set (grown_refl w (some b))) _) (bl_drewN _ _)
set_option maxHeartbeats 2000000 in
set_option maxRecDepth 100000 in
/-- An empty buffer grows by more than 64 bytes. -/
theorem grow_nil_big (b q n : Nat) (T : TypeId) (cs : Array Value) (w : World) (hb : w.heap[b]? = some (.cells cs T (0, 0))) (h0 : cs[q]? = some (.slice none 0 0)) (h1 : cs[q + 1]? = some (.int .i64 0)) (h64 : 64 < n) (hlim : n ≤ 140737488355328) :
    Calls Tryd.prog 81 #[.pointer (some ⟨b, q, none⟩), .int .i64 n] w (RetGrow b q T cs 0 n [] w) := by
  have hnil : ∀ W, (binOp .eql 22 (.slice none 0 0) (.slice none 0 0)).run Tryd.prog W = .ok (.bool true) W := fun W => Lib.run_eql_slice_nil_nil W 0 0 Tryd.underlying22
  have c0 := (xb_cell hb q).trans h0
  have c1 := (xb_cell hb (q + 1)).trans h1
  have f0 := blk_free hb q
  have f1 := blk_free hb (q + 1)
  have hbs := xb_lt hb
  have GS : Hid (∀ W, Calls Tryd.prog 88 #[.slice none 0 0, .int .i64 n] W fun e w' => ∃ cap2 cells, e = .returned (.slice (some ⟨W.heap.size, 0, none⟩) 0 cap2) ∧ w'.heap[W.heap.size]? = some (.cells cells 5 (0, 0)) ∧ cells.size = cap2 ∧ n ≤ cap2 ∧ cap2 ≤ maxLen ∧ Below W.heap.size W w') :=
    Lib.hid fun W => Tryd.bytes_growSlice_nil n W (by omega) hlim
  have BL : Hid (Calls Tryd.prog 86 #[.pointer (some ⟨b, q, none⟩)] w (RetLen 0 w)) := Lib.hid (bufLen b q 0 0 _ w c0 c1 (by omega))
  have BN : Hid (∀ W, W.cell? ⟨b, q, none⟩ = some (.slice none 0 0) → Calls Tryd.prog 80 #[.pointer (some ⟨b, q, none⟩), .int .i64 n] W fun e w' => e = .returned (.tuple #[.int .i64 0, .bool false]) ∧ w' = W) :=
    Lib.hid fun W d0 => bufNoRoom b q 0 0 n _ W d0 (Nat.le_refl _) (by omega) (by omega) (by omega)
  have HB := Lib.hid hb
  have H1 := Lib.hid h1
  have HW : Hid (∀ W, Below w.heap.size w W → W.cell? ⟨b, q, none⟩ = some (.slice none 0 0) ∧ W.cell? ⟨b, q + 1, none⟩ = some (.int .i64 0) ∧ W.frozen? ⟨b, q, none⟩ = false ∧ W.frozen? ⟨b, q + 1, none⟩ = false) := Lib.hid fun W hW => ⟨bl_cell hW c0, bl_cell hW c1, (hW.frozen (p := ⟨b, q, none⟩) hbs).trans f0, (hW.frozen (p := ⟨b, q + 1, none⟩) hbs).trans f1⟩
  clear hb h0 h1
  have hwn : IntKind.i64.wrap (n : Int) = n := by rw [IntKind.wrap_i64]; omega
  go_enter Tryd.func81, Tryd.ntmps81
  go_wp2_with fail
  refine BL.out.mono ?_
  rintro e w1 ⟨rfl, hd⟩
  obtain ⟨d, rfl⟩ := hd.out
  clear hd
  go_wp2_with fail
  refine (BN.out _ (by exact c0)).mono ?_
  rintro e w2 ⟨rfl, rfl⟩
  go_wp2_with fail
  clear hnil BN BL
  go_region_with (
    go_at_call 88
    refine (GS.out _).mono ?_
    rintro e w2 ⟨cap2, cells, rfl, hN, hcsz, hcap2, hcm2, hbel⟩
    have HWW := Lib.hid (bl_trans (bl_drewN w (d + 1)) hbel)
    obtain ⟨k0, k1, kf0, kf1⟩ := HW.out w2 HWW.out
    have HN := Lib.hid hN
    have HS := Lib.hid hcsz
    clear hN hcsz hbel)
  all_goals (
    go_wp2
    go_ret
    have hne : ¬ w.heap.size = b := by omega
    refine ⟨w.heap.size, cap2, cells, rfl, ?_, ?_, HS.out, hcm2, by omega, rfl, Nat.le_refl _, grown_set (grown_set (grown_set (grown_bl (grown_refl _ _) HWW.out)))⟩
    · rw [← grow_cells H1.out, Nat.zero_add]
      exact xb_set (xb_set (xb_set (blk_bl HB.out HWW.out hbs) q _) (q + 1) _) q _
    · rw [blk_set_other hne, blk_set_other hne, blk_set_other hne]
      exact HN.out)
theorem grow_nil_any (b q n : Nat) (T : TypeId) (cs : Array Value) (w : World) (hb : w.heap[b]? = some (.cells cs T (0, 0))) (h0 : cs[q]? = some (.slice none 0 0)) (h1 : cs[q + 1]? = some (.int .i64 0)) (hn : 1 ≤ n) (hlim : n ≤ 140737488355328) :
    Calls Tryd.prog 81 #[.pointer (some ⟨b, q, none⟩), .int .i64 n] w (RetGrow b q T cs 0 n [] w) := by
  by_cases h : n ≤ 64
  · exact grow_nil_small b q n T cs w hb h0 h1 hn h
  · exact grow_nil_big b q n T cs w hb h0 h1 (by omega) hlim
set_option maxRecDepth 100000 in
set_option maxHeartbeats 1000000 in
/-- Write where there is no room, whatever the buffer was (a row, or none): by what its grow does. -/
theorem bufWriteGrowsAny (b q g l c : Nat) (A0 : Option Addr) (T : TypeId) (cs : Array Value) (old : List Value) (lr : Int) (a : Addr) (cp : Nat) (p : List Int) (w : World) (hb : w.heap[b]? = some (.cells cs T (0, 0))) (h0 : cs[q]? = some (.slice A0 l c)) (h2 : cs[q + 2]? = some (.int .i8 lr))
    (hlc : l ≤ c) (hc : c ≤ maxLen) (all : List Value) (hall : old ++ nums .u8 p = all) (hol : old.length = l)
    (hp : 0 < p.length) (hsrc : ∀ j v, (nums .u8 p)[j]? = some v → w.cell? (a.add j) = some v) (hab : a.block ≠ b) (hfit : c - l < p.length) (hlim : l + p.length ≤ 140737488355328) (h1c : ∀ v ∈ old, v.oneCell' = true)
    (hgrow : Calls Tryd.prog 81 #[.pointer (some ⟨b, q, none⟩), .int .i64 p.length] (w.setCell ⟨b, q + 2, none⟩ (.int .i8 0)) (RetGrow b q T (cs.setIfInBounds (q + 2) (.int .i8 0)) l p.length old (w.setCell ⟨b, q + 2, none⟩ (.int .i8 0)))) :
    Calls Tryd.prog 58 #[.pointer (some ⟨b, q, none⟩), .slice (some a) p.length cp] w (RetWrite b q g T cs l p.length all w) := by
  have c2 := (xb_cell hb (q + 2)).trans h2
  have f2 := blk_free hb (q + 2)
  have hbs := xb_lt hb
  have hinfo : (Tryd.prog.info? 5).map (·.size) = some 1 := by kernel_rfl
  have hc' := hc
  unfold maxLen at hc'
  have hnl : (nums .u8 p).length = p.length := nums_length ..
  have BR : Hid (Calls Tryd.prog 80 #[.pointer (some ⟨b, q, none⟩), .int .i64 p.length] (w.setCell ⟨b, q + 2, none⟩ (.int .i8 0)) fun e w' => e = .returned (.tuple #[.int .i64 0, .bool false]) ∧ w' = w.setCell ⟨b, q + 2, none⟩ (.int .i8 0)) :=
    Lib.hid (bufNoRoom b q l c p.length _ _ ((set_in (by omega)).trans ((xb_cell hb q).trans h0)) hlc (by omega) hfit (by omega))
  have BG := Lib.hid hgrow
  have hg0 : w.grownBy (w.setCell ⟨b, q + 2, none⟩ (.int .i8 0)) (some b) := grown_set (grown_refl _ _)
  have HG0 := Lib.hid hg0
  have HQ := Lib.hid (show (cs.setIfInBounds (q + 2) (.int .i8 0)).size = cs.size by simp)
  have hq : q < cs.size := by have := (Array.getElem?_eq_some_iff.1 h0).1; exact this
  have HSRC := Lib.hid hsrc
  have HALL := Lib.hid hall
  have HNL := Lib.hid hnl
  have HINFO := Lib.hid hinfo
  clear hb h0 h2 hg0 hsrc hall hnl hinfo h1c hgrow
  obtain ⟨n, hn⟩ : ∃ n, n = p.length := ⟨_, rfl⟩
  have HN := Lib.hid hn
  rw [← hn] at hp hfit BR BG hlim ⊢
  clear hn
  go_enter Tryd.func58, Tryd.ntmps58
  go_wp2_with fail
  refine BR.out.mono ?_
  rintro e w0 ⟨rfl, rfl⟩
  go_wp2_with fail
  refine BG.out.mono ?_
  rintro e w1 ⟨g2, c3, cur2, rfl, hb1, hg1, hs2, hm2, hl2, ht2, hn2, hgr⟩
  have hn2' : w.heap.size ≤ g2 := by simpa [World.setCell] using hn2
  have hgrw := grown_trans HG0.out hgr
  have hgb2 : ¬ g2 = b := by omega
  have d0 : w1.cell? ⟨b, q, none⟩ = some (.slice (some ⟨g2, 0, none⟩) (l + n) c3) := (xb_cell hb1 q).trans (Array.getElem?_setIfInBounds_self_of_lt (by rw [HQ.out]; exact hq))
  have hcp := run_copy_row (P := Tryd.prog) w1 22 22 3 5 g2 l n (c3 - l) a n cp cur2 5 (nums .u8 p) Tryd.underlying22 HINFO.out hg1 (by rw [HNL.out, HN.out]; exact (Nat.min_self _).symm) (fun j v hj => hgrw.cell (HSRC.out j v hj) (by rw [Lib.block_add]; exact fun e => hab (Option.some.inj e))) (by rw [HNL.out, ← HN.out]; omega) (nums_one p)
  have hst := (splice_take cur2 l (nums .u8 p) (by omega)).trans ((congrArg (· ++ nums .u8 p) ht2).trans HALL.out)
  have hsz : ((cur2.toList.take l ++ nums .u8 p ++ cur2.toList.drop (l + (nums .u8 p).length)).toArray).size = c3 := by
    simp only [List.size_toArray, List.length_append, List.length_take, List.length_drop, Array.length_toList]
    rw [HNL.out, ← HN.out]
    omega
  rw [HNL.out, ← HN.out] at hcp hst hsz
  generalize (cur2.toList.take l ++ nums .u8 p ++ cur2.toList.drop (l + n)).toArray = ROW at *
  have HG := Lib.hid hgrw
  have Hb1 := Lib.hid hb1
  have Hg1 := Lib.hid hg1
  have HST := Lib.hid hst
  have HSZ := Lib.hid hsz
  have hne : ¬ c3 = l := by omega
  have hm2' := hm2
  unfold maxLen at hm2'
  clear hb1 hg1 hgr BR BG HG0 HQ HSRC HALL HNL HINFO HN hst hsz hgrw ht2 hs2
  go_wp2
  all_goals
    go_ret2
    exact ⟨g2, c3, ROW, by first | rfl | simp, (setRow_other w1 g2 b ROW (fun e => hgb2 e.symm)).trans Hb1.out, setRow_heap w1 g2 cur2 ROW _ _ Hg1.out, HSZ.out, hm2, hl2, HST.out, .inr hn2', (Kp2.of HG.out g).setRow (.inr hn2') ROW⟩
set_option maxHeartbeats 400000 in
/-- Nothing is written to an empty buffer. -/
theorem bufWriteNone (b q : Nat) (T : TypeId) (cs : Array Value) (lr : Int) (A : Option Addr) (cp : Nat) (w : World) (hb : w.heap[b]? = some (.cells cs T (0, 0))) (h0 : cs[q]? = some (.slice none 0 0)) (h2 : cs[q + 2]? = some (.int .i8 lr)) :
    Calls Tryd.prog 58 #[.pointer (some ⟨b, q, none⟩), .slice A 0 cp] w fun e w' => e = .returned (.tuple #[.int .i64 0, .nilIface]) ∧ w'.heap[b]? = some (.cells ((cs.setIfInBounds (q + 2) (.int .i8 0)).setIfInBounds q (.slice none 0 0)) T (0, 0)) ∧ w.grownBy w' (some b) := by
  have c2 := (xb_cell hb (q + 2)).trans h2
  have f2 := blk_free hb (q + 2)
  have hinfo : (Tryd.prog.info? 5).map (·.size) = some 1 := by kernel_rfl
  have hce : ∀ d dLen dCap W, (Builtin.copy_ #[22, 22] 3 #[.slice d dLen dCap, .slice A 0 cp]).run Tryd.prog W = .ok (goInt 0) W := fun d dLen dCap W => run_copy_none W 22 22 3 5 d A dLen dCap 0 cp Tryd.underlying22 hinfo (by simp)
  have br := bufRoomB b q 0 0 0 T (cs.setIfInBounds (q + 2) (.int .i8 0)) none (w.setCell ⟨b, q + 2, none⟩ (.int .i8 0)) (xb_set hb (q + 2) _) (by rw [Array.getElem?_setIfInBounds_ne (by omega)]; exact h0) (Nat.le_refl _) (by omega) (by omega)
  have BR := Lib.hid br
  have HG0 := Lib.hid (show w.grownBy (w.setCell ⟨b, q + 2, none⟩ (.int .i8 0)) (some b) from grown_set (grown_refl _ _))
  have HQ := Lib.hid (show (cs.setIfInBounds (q + 2) (.int .i8 0)).size = cs.size by simp)
  have hq : q < cs.size := by have := (Array.getElem?_eq_some_iff.1 h0).1; exact this
  clear hb h0 h2 br
  go_enter Tryd.func58, Tryd.ntmps58
  go_wp2_with fail
  refine BR.out.mono ?_
  rintro e w1 ⟨rfl, hb1, hgr⟩
  have d0 : w1.cell? ⟨b, q, none⟩ = some (.slice none 0 0) := (xb_cell hb1 q).trans (Array.getElem?_setIfInBounds_self_of_lt (by rw [HQ.out]; exact hq))
  have HG := Lib.hid (grown_trans HG0.out hgr)
  have Hb1 := Lib.hid hb1
  clear hb1 hgr BR HG0 HQ
  go_wp2
  all_goals
    go_ret2
    exact ⟨by first | rfl | simp, Hb1.out, HG.out⟩
def RetB (b q g : Nat) (T : TypeId) (cs : Array Value) (l : Nat) (all : List Value) (w : World) (e : Ending) (w' : World) : Prop :=
  ∃ g' cap cur, e = .returned .nilIface ∧ w'.heap[b]? = some (.cells ((cs.setIfInBounds (q + 2) (.int .i8 0)).setIfInBounds q (.slice (some ⟨g', 0, none⟩) (l + 1) cap)) T (0, 0)) ∧ w'.heap[g']? = some (.cells cur 5 (0, 0)) ∧ cur.size = cap ∧ cap ≤ maxLen ∧ l + 1 ≤ cap ∧ cur.toList.take (l + 1) = all ∧ (g' = g ∨ w.heap.size ≤ g') ∧ Kp2 w w' b g
theorem take_set {cur : Array Value} {l : Nat} {u : Value} (h : l < cur.size) : (cur.setIfInBounds l u).toList.take (l + 1) = cur.toList.take l ++ [u] := by
  rw [Array.toList_setIfInBounds, List.take_add_one, List.take_set_of_le (Nat.le_refl _), List.getElem?_set_self (by simpa using h)]
  rfl
theorem Kp2.setCell {a w : World} {b g g' i : Nat} {u : Value} (h : Kp2 a w b g) (hg : g' = g ∨ a.heap.size ≤ g') : Kp2 a (w.setCell ⟨g', i, none⟩ u) b g :=
  ⟨h.os, h.tape, h.output, by rw [World.size_setCell]; exact h.size, fun k hk hb hkg => (blk_set_other (by rcases hg with rfl | hg <;> omega)).trans (h.block k hk hb hkg)⟩
set_option maxHeartbeats 1000000 in
set_option maxRecDepth 100000 in
theorem writeByteFits (b q g l c : Nat) (T : TypeId) (cs cur : Array Value) (lr x : Int) (w : World) (hb : w.heap[b]? = some (.cells cs T (0, 0))) (h0 : cs[q]? = some (.slice (some ⟨g, 0, none⟩) l c)) (h2 : cs[q + 2]? = some (.int .i8 lr))
    (hg : w.heap[g]? = some (.cells cur 5 (0, 0))) (hgb : ¬ g = b) (hcs : cur.size = c) (hlc : l < c) (hc : c ≤ maxLen) (all : List Value) (hall : cur.toList.take l ++ [.int .u8 x] = all) :
    Calls Tryd.prog 59 #[.pointer (some ⟨b, q, none⟩), .int .u8 x] w (RetB b q g T cs l all w) := by
  have c2 := (xb_cell hb (q + 2)).trans h2
  have f2 := blk_free hb (q + 2)
  have hc' := hc
  unfold maxLen at hc'
  have br := bufRoomB b q l c 1 T (cs.setIfInBounds (q + 2) (.int .i8 0)) (some ⟨g, 0, none⟩) (w.setCell ⟨b, q + 2, none⟩ (.int .i8 0)) (xb_set hb (q + 2) _) (by rw [Array.getElem?_setIfInBounds_ne (by omega)]; exact h0) (by omega) (by omega) (by omega)
  rw [show ((1 : Nat) : Int) = 1 from rfl] at br
  have BR := Lib.hid br
  have HG0 := Lib.hid (show w.grownBy (w.setCell ⟨b, q + 2, none⟩ (.int .i8 0)) (some b) from grown_set (grown_refl _ _))
  have HGW := Lib.hid hg
  have HQ := Lib.hid (show (cs.setIfInBounds (q + 2) (.int .i8 0)).size = cs.size by simp)
  have hq : q < cs.size := by have := (Array.getElem?_eq_some_iff.1 h0).1; exact this
  have hst := (take_set (u := .int .u8 x) (by rw [hcs]; exact hlc)).trans hall
  have HST := Lib.hid hst
  have HSZ := Lib.hid (show (cur.setIfInBounds l (.int .u8 x)).size = c by rw [Array.size_setIfInBounds]; exact hcs)
  have hu : ∃ u, cur[l]? = some u := ⟨cur[l]'(by omega), Array.getElem?_eq_getElem (by omega)⟩
  clear hb h0 h2 hg br hst hall
  go_enter Tryd.func59, Tryd.ntmps59
  go_wp2_with fail
  refine BR.out.mono ?_
  rintro e w1 ⟨rfl, hb1, hgr⟩
  have d0 : w1.cell? ⟨b, q, none⟩ = some (.slice (some ⟨g, 0, none⟩) (l + 1) c) := (xb_cell hb1 q).trans (Array.getElem?_setIfInBounds_self_of_lt (by rw [HQ.out]; exact hq))
  have hg1 : w1.heap[g]? = some (.cells cur 5 (0, 0)) := ((grown_trans HG0.out hgr).block g (xb_lt HGW.out) (fun e => hgb (by injection e))).trans HGW.out
  obtain ⟨u, hu⟩ := hu
  have dg : w1.cell? ⟨g, l, none⟩ = some u := (xb_cell hg1 l).trans hu
  have dgf := blk_free hg1 l
  have HG := Lib.hid (grown_trans HG0.out hgr)
  have Hb1 := Lib.hid hb1
  have Hg1 := Lib.hid hg1
  clear hb1 hg1 hgr BR HG0 HGW HQ hu hcs
  go_wp2
  go_ret
  exact ⟨g, c, _, rfl, (blk_set_other (fun e => hgb e.symm)).trans Hb1.out, xb_set Hg1.out l _, HSZ.out, hc, by omega, HST.out, .inl rfl, (Kp2.of HG.out g).setCell (.inl rfl)⟩
set_option maxHeartbeats 1000000 in
set_option maxRecDepth 100000 in
theorem writeByteGrowsAny (b q g l c : Nat) (A0 : Option Addr) (T : TypeId) (cs : Array Value) (old : List Value) (lr x : Int) (w : World) (hb : w.heap[b]? = some (.cells cs T (0, 0))) (h0 : cs[q]? = some (.slice A0 l c)) (h2 : cs[q + 2]? = some (.int .i8 lr))
    (hlc : l ≤ c) (hfit : c - l < 1) (hc : c ≤ maxLen) (hlim : l + 1 ≤ 140737488355328) (all : List Value) (hall : old ++ [.int .u8 x] = all)
    (hgrow : Calls Tryd.prog 81 #[.pointer (some ⟨b, q, none⟩), .int .i64 (1 : Nat)] (w.setCell ⟨b, q + 2, none⟩ (.int .i8 0)) (RetGrow b q T (cs.setIfInBounds (q + 2) (.int .i8 0)) l 1 old (w.setCell ⟨b, q + 2, none⟩ (.int .i8 0)))) :
    Calls Tryd.prog 59 #[.pointer (some ⟨b, q, none⟩), .int .u8 x] w (RetB b q g T cs l all w) := by
  have c2 := (xb_cell hb (q + 2)).trans h2
  have f2 := blk_free hb (q + 2)
  have hbs := xb_lt hb
  have hc' := hc
  unfold maxLen at hc'
  have br := bufNoRoom b q l c 1 A0 (w.setCell ⟨b, q + 2, none⟩ (.int .i8 0)) ((set_in (by omega)).trans ((xb_cell hb q).trans h0)) hlc (by omega) hfit (by omega)
  rw [show ((1 : Nat) : Int) = 1 from rfl] at br hgrow
  have BR := Lib.hid br
  have BG := Lib.hid hgrow
  have HG0 := Lib.hid (show w.grownBy (w.setCell ⟨b, q + 2, none⟩ (.int .i8 0)) (some b) from grown_set (grown_refl _ _))
  have HQ := Lib.hid (show (cs.setIfInBounds (q + 2) (.int .i8 0)).size = cs.size by simp)
  have hq : q < cs.size := by have := (Array.getElem?_eq_some_iff.1 h0).1; exact this
  have HALL := Lib.hid hall
  clear hb h0 h2 br hgrow hall
  go_enter Tryd.func59, Tryd.ntmps59
  go_wp2_with fail
  refine BR.out.mono ?_
  rintro e w0 ⟨rfl, rfl⟩
  go_wp2_with fail
  refine BG.out.mono ?_
  rintro e w1 ⟨g2, c3, cur2, rfl, hb1, hg1, hs2, hm2, hl2, ht2, hn2, hgr⟩
  have hn2' : w.heap.size ≤ g2 := by simpa [World.setCell] using hn2
  have hgrw := grown_trans HG0.out hgr
  have hgb2 : ¬ g2 = b := by omega
  have d0 : w1.cell? ⟨b, q, none⟩ = some (.slice (some ⟨g2, 0, none⟩) (l + 1) c3) := (xb_cell hb1 q).trans (Array.getElem?_setIfInBounds_self_of_lt (by rw [HQ.out]; exact hq))
  have hu : ∃ u, cur2[l]? = some u := ⟨cur2[l]'(by omega), Array.getElem?_eq_getElem (by omega)⟩
  obtain ⟨u, hu⟩ := hu
  have dg : w1.cell? ⟨g2, l, none⟩ = some u := (xb_cell hg1 l).trans hu
  have dgf := blk_free hg1 l
  have hst := (take_set (cur := cur2) (l := l) (u := .int .u8 x) (by omega)).trans ((congrArg (· ++ [Value.int .u8 x]) ht2).trans HALL.out)
  have HST := Lib.hid hst
  have HSZ := Lib.hid (show (cur2.setIfInBounds l (.int .u8 x)).size = c3 by rw [Array.size_setIfInBounds]; exact hs2)
  have HG := Lib.hid hgrw
  have Hb1 := Lib.hid hb1
  have Hg1 := Lib.hid hg1
  have hm2' := hm2
  unfold maxLen at hm2'
  clear hb1 hg1 hgr BR BG HG0 HQ HALL hgrw ht2 hs2 hst hu
  go_wp2
  go_ret
  exact ⟨g2, c3, _, rfl, (blk_set_other (fun e => hgb2 e.symm)).trans Hb1.out, xb_set Hg1.out l _, HSZ.out, hm2, by omega, HST.out, .inr hn2', (Kp2.of HG.out g).setCell (.inr hn2')⟩
end Go.Proofs.YtdnahdddkagfhaaDoor.X
