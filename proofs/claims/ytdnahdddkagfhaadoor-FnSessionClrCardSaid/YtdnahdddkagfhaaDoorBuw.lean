/- (*bytes.Buffer).Write onto a row, and Bytes. -/
import Derived.Test.YtdnahdddkagfhaaDoorBuf
import Derived.Laws.CopyRow
namespace Go.Proofs.YtdnahdddkagfhaaDoor.X
open Go.RowKit Go.Proofs.YtdnahdddkagfhaaDoorW.PrintWords Go.Proofs.YtdnahdddkagfhaaDoorW.PrintMore
attribute [local go_sem] setCell_drewN alloc_drewN
set_option linter.unusedVariables false

theorem set_in {w : World} {b i j : Nat} {u : Value} (h : ¬ j = i) : (w.setCell ⟨b, i, none⟩ u).cell? ⟨b, j, none⟩ = w.cell? ⟨b, j, none⟩ := World.cell?_setCell_other _ _ _ _ (fun e => h (by injection e with _ e _; exact e.symm))
/-- All blocks but b and g are as they were. -/
structure Kp2 (w w' : World) (b g : Nat) : Prop where
  os : w'.os = w.os
  tape : w'.tape = w.tape
  output : w'.output = w.output
  size : w.heap.size ≤ w'.heap.size
  block : ∀ k, k < w.heap.size → k ≠ b → k ≠ g → w'.heap[k]? = w.heap[k]?
theorem Kp2.of {w w' : World} {b : Nat} (h : w.grownBy w' (some b)) (g : Nat) : Kp2 w w' b g := ⟨h.os, h.tape, h.output, h.size, fun k hk hb _ => h.block k hk (fun e => hb (by injection e))⟩
theorem Kp2.trans {a w w' : World} {b g : Nat} (h : Kp2 a w b g) (k : Kp2 w w' b g) : Kp2 a w' b g :=
  ⟨k.os.trans h.os, k.tape.trans h.tape, k.output.trans h.output, Nat.le_trans h.size k.size, fun i hi hb hg => (k.block i (Nat.lt_of_lt_of_le hi h.size) hb hg).trans (h.block i hi hb hg)⟩
theorem Kp2.setRow {a w : World} {b g g' : Nat} (h : Kp2 a w b g) (hg : g' = g ∨ a.heap.size ≤ g') (R : Array Value) : Kp2 a (w.setRow g' R) b g :=
  ⟨h.os, h.tape, h.output, by simpa using h.size, fun k hk hb hkg => (setRow_other w g' k R (by rcases hg with rfl | hg <;> omega)).trans (h.block k hk hb hkg)⟩
theorem Kp2.below {B : Nat} {a w w' : World} {b g : Nat} (h : Below B a w) (k : Kp2 w w' b g) (hB : B ≤ w.heap.size) (hb : B ≤ b) (hg : B ≤ g) : Below B a w' :=
  h.trans ⟨k.os, k.tape, k.output, k.size, fun i hi => k.block i (by omega) (by omega) (by omega)⟩

def RetRoom (b q : Nat) (T : TypeId) (cs : Array Value) (l : Nat) (v : Value) (w : World) (e : Ending) (w' : World) : Prop :=
  e = .returned (.tuple #[.int .i64 l, .bool true]) ∧ w'.heap[b]? = some (.cells (cs.setIfInBounds q v) T (0, 0)) ∧ w.grownBy w' (some b)
theorem bufRoomB (b q l c n : Nat) (T : TypeId) (cs : Array Value) (A : Option Addr) (w : World) (hb : w.heap[b]? = some (.cells cs T (0, 0))) (h0 : cs[q]? = some (.slice A l c)) (hlc : l ≤ c) (hc : c ≤ 9223372036854775807) (hn : n ≤ c - l) :
    Calls Tryd.prog 80 #[.pointer (some ⟨b, q, none⟩), .int .i64 n] w (RetRoom b q T cs l (.slice A (l + n) c) w) :=
  (bufRoom b q l c n A w ((xb_cell hb q).trans h0) (blk_free hb q) hlc hc hn).mono fun e w' ⟨he, hw⟩ => ⟨he, by rw [hw]; exact xb_set hb q _, by rw [hw]; exact grown_set (grown_refl _ _)⟩

/-- Behind a write: the buffer holds what it held and the bytes. -/
def RetWrite (b q g : Nat) (T : TypeId) (cs : Array Value) (l n : Nat) (all : List Value) (w : World) (e : Ending) (w' : World) : Prop :=
  ∃ g' cap cur, e = .returned (.tuple #[.int .i64 n, .nilIface]) ∧ w'.heap[b]? = some (.cells ((cs.setIfInBounds (q + 2) (.int .i8 0)).setIfInBounds q (.slice (some ⟨g', 0, none⟩) (l + n) cap)) T (0, 0)) ∧ w'.heap[g']? = some (.cells cur 5 (0, 0)) ∧ cur.size = cap ∧ cap ≤ maxLen ∧ l + n ≤ cap ∧ cur.toList.take (l + n) = all ∧ (g' = g ∨ w.heap.size ≤ g') ∧ Kp2 w w' b g
theorem nums_one (l : List Int) : ∀ v ∈ nums .u8 l, v.oneCell' = true := by
  intro v hv
  obtain ⟨x, _, rfl⟩ := List.mem_map.1 hv
  rfl
theorem splice_take (cur : Array Value) (l : Nat) (cs : List Value) (hl : l ≤ cur.size) : ((cur.toList.take l ++ cs ++ cur.toList.drop (l + cs.length)).toArray).toList.take (l + cs.length) = cur.toList.take l ++ cs := by
  have h : (cur.toList.take l ++ cs).length = l + cs.length := by simp; omega
  rw [List.toList_toArray, ← h, List.take_left]

set_option maxRecDepth 100000 in
set_option maxHeartbeats 1000000 in
theorem bufWriteRow0 (b q g l c : Nat) (T : TypeId) (cs cur : Array Value) (lr : Int) (A : Option Addr) (cp : Nat) (w : World) (hb : w.heap[b]? = some (.cells cs T (0, 0))) (h0 : cs[q]? = some (.slice (some ⟨g, 0, none⟩) l c)) (h2 : cs[q + 2]? = some (.int .i8 lr))
    (hg : w.heap[g]? = some (.cells cur 5 (0, 0))) (hgb : ¬ g = b) (hcs : cur.size = c) (hlc : l ≤ c) (hc : c ≤ maxLen) (all : List Value) (hall : cur.toList.take l = all) :
    Calls Tryd.prog 58 #[.pointer (some ⟨b, q, none⟩), .slice A 0 cp] w (RetWrite b q g T cs l 0 all w) := by
  have c2 := (xb_cell hb (q + 2)).trans h2
  have f2 := blk_free hb (q + 2)
  have hbs := xb_lt hb
  have hinfo : (Tryd.prog.info? 5).map (·.size) = some 1 := by kernel_rfl
  have hce : ∀ d dLen dCap W, (Builtin.copy_ #[22, 22] 3 #[.slice d dLen dCap, .slice A 0 cp]).run Tryd.prog W = .ok (goInt 0) W := fun d dLen dCap W => run_copy_none W 22 22 3 5 d A dLen dCap 0 cp Tryd.underlying22 hinfo (by simp)
  have hc' := hc
  unfold maxLen at hc'
  have BR : Hid (Calls Tryd.prog 80 #[.pointer (some ⟨b, q, none⟩), .int .i64 (0 : Nat)] (w.setCell ⟨b, q + 2, none⟩ (.int .i8 0)) (RetRoom b q T (cs.setIfInBounds (q + 2) (.int .i8 0)) l (.slice (some ⟨g, 0, none⟩) (l + 0) c) (w.setCell ⟨b, q + 2, none⟩ (.int .i8 0)))) :=
    Lib.hid (bufRoomB b q l c 0 T _ _ _ (xb_set hb (q + 2) _) (by rw [Array.getElem?_setIfInBounds_ne (by omega)]; exact h0) hlc (by omega) (by omega))
  have hg0 : w.grownBy (w.setCell ⟨b, q + 2, none⟩ (.int .i8 0)) (some b) := grown_set (grown_refl _ _)
  have HG0 := Lib.hid hg0
  have HGW := Lib.hid hg
  have HQ := Lib.hid (show (cs.setIfInBounds (q + 2) (.int .i8 0)).size = cs.size by simp)
  have hq : q < cs.size := by have := (Array.getElem?_eq_some_iff.1 h0).1; exact this
  clear hb h0 h2 hg hg0
  go_enter Tryd.func58, Tryd.ntmps58
  go_wp2_with fail
  refine BR.out.mono ?_
  rintro e w1 ⟨rfl, hb1, hgr⟩
  have d0 : w1.cell? ⟨b, q, none⟩ = some (.slice (some ⟨g, 0, none⟩) l c) := (xb_cell hb1 q).trans (Array.getElem?_setIfInBounds_self_of_lt (by rw [HQ.out]; exact hq))
  have hg1 : w1.heap[g]? = some (.cells cur 5 (0, 0)) := ((grown_trans HG0.out hgr).block g (xb_lt HGW.out) (fun e => hgb (by injection e))).trans HGW.out
  have HG := Lib.hid (grown_trans HG0.out hgr)
  have Hb1 := Lib.hid hb1
  have Hg1 := Lib.hid hg1
  clear hb1 hg1 hgr BR HG0 HGW HQ
  go_wp2
  all_goals
    go_ret2
    exact ⟨g, c, cur, by first | rfl | simp, Hb1.out, Hg1.out, hcs, hc, by omega, hall, .inl rfl, Kp2.of HG.out g⟩
set_option maxRecDepth 100000 in
set_option maxHeartbeats 1000000 in
theorem bufWriteRowFits (b q g l c : Nat) (T : TypeId) (cs cur : Array Value) (lr : Int) (a : Addr) (cp : Nat) (p : List Int) (w : World) (hb : w.heap[b]? = some (.cells cs T (0, 0))) (h0 : cs[q]? = some (.slice (some ⟨g, 0, none⟩) l c)) (h2 : cs[q + 2]? = some (.int .i8 lr))
    (hg : w.heap[g]? = some (.cells cur 5 (0, 0))) (hgb : ¬ g = b) (hcs : cur.size = c) (hlc : l ≤ c) (hc : c ≤ maxLen) (all : List Value) (hall : cur.toList.take l ++ nums .u8 p = all)
    (hp : 0 < p.length) (hsrc : ∀ j v, (nums .u8 p)[j]? = some v → w.cell? (a.add j) = some v) (hab : a.block ≠ b) (hfit : p.length ≤ c - l) :
    Calls Tryd.prog 58 #[.pointer (some ⟨b, q, none⟩), .slice (some a) p.length cp] w (RetWrite b q g T cs l p.length all w) := by
  have c2 := (xb_cell hb (q + 2)).trans h2
  have f2 := blk_free hb (q + 2)
  have hbs := xb_lt hb
  have hinfo : (Tryd.prog.info? 5).map (·.size) = some 1 := by kernel_rfl
  have hc' := hc
  unfold maxLen at hc'
  have hnl : (nums .u8 p).length = p.length := nums_length ..
  have BR : Hid (Calls Tryd.prog 80 #[.pointer (some ⟨b, q, none⟩), .int .i64 p.length] (w.setCell ⟨b, q + 2, none⟩ (.int .i8 0)) (RetRoom b q T (cs.setIfInBounds (q + 2) (.int .i8 0)) l (.slice (some ⟨g, 0, none⟩) (l + p.length) c) (w.setCell ⟨b, q + 2, none⟩ (.int .i8 0)))) :=
    Lib.hid (bufRoomB b q l c p.length T _ _ _ (xb_set hb (q + 2) _) (by rw [Array.getElem?_setIfInBounds_ne (by omega)]; exact h0) hlc (by omega) (by omega))
  have hg0 : w.grownBy (w.setCell ⟨b, q + 2, none⟩ (.int .i8 0)) (some b) := grown_set (grown_refl _ _)
  have HG0 := Lib.hid hg0
  have HGW := Lib.hid hg
  have HQ := Lib.hid (show (cs.setIfInBounds (q + 2) (.int .i8 0)).size = cs.size by simp)
  have hq : q < cs.size := by have := (Array.getElem?_eq_some_iff.1 h0).1; exact this
  have HSRC := Lib.hid hsrc
  have HALL := Lib.hid hall
  have HNL := Lib.hid hnl
  have HINFO := Lib.hid hinfo
  clear hb h0 h2 hg hg0 hsrc hall hnl hinfo
  obtain ⟨n, hn⟩ : ∃ n, n = p.length := ⟨_, rfl⟩
  have HN := Lib.hid hn
  rw [← hn] at hp hfit BR ⊢
  clear hn
  go_enter Tryd.func58, Tryd.ntmps58
  go_wp2_with fail
  refine BR.out.mono ?_
  rintro e w1 ⟨rfl, hb1, hgr⟩
  have hgrw := grown_trans HG0.out hgr
  have d0 : w1.cell? ⟨b, q, none⟩ = some (.slice (some ⟨g, 0, none⟩) (l + n) c) := (xb_cell hb1 q).trans (Array.getElem?_setIfInBounds_self_of_lt (by rw [HQ.out]; exact hq))
  have hg1 : w1.heap[g]? = some (.cells cur 5 (0, 0)) := (hgrw.block g (xb_lt HGW.out) (fun e => hgb (by injection e))).trans HGW.out
  have hcp := run_copy_row (P := Tryd.prog) w1 22 22 3 5 g l n (c - l) a n cp cur 5 (nums .u8 p) Tryd.underlying22 HINFO.out hg1 (by rw [HNL.out, HN.out]; exact (Nat.min_self _).symm) (fun j v hj => hgrw.cell (HSRC.out j v hj) (by rw [Lib.block_add]; exact fun e => hab (Option.some.inj e))) (by rw [HNL.out, ← HN.out]; omega) (nums_one p)
  have hst := (splice_take cur l (nums .u8 p) (by omega)).trans HALL.out
  have hsz : ((cur.toList.take l ++ nums .u8 p ++ cur.toList.drop (l + (nums .u8 p).length)).toArray).size = c := by
    simp only [List.size_toArray, List.length_append, List.length_take, List.length_drop, Array.length_toList]
    rw [HNL.out, ← HN.out]
    omega
  rw [HNL.out, ← HN.out] at hcp hst hsz
  generalize (cur.toList.take l ++ nums .u8 p ++ cur.toList.drop (l + n)).toArray = ROW at *
  have HG := Lib.hid hgrw
  have Hb1 := Lib.hid hb1
  have Hg1 := Lib.hid hg1
  have HST := Lib.hid hst
  have HSZ := Lib.hid hsz
  have hne : ¬ c = l := by omega
  clear hb1 hg1 hgr BR HG0 HGW HQ HSRC HALL HNL HINFO HN hst hsz hgrw
  go_wp2
  all_goals
    go_ret2
    exact ⟨g, c, ROW, by first | rfl | simp, (setRow_other w1 g b ROW (fun e => hgb e.symm)).trans Hb1.out, setRow_heap w1 g cur ROW _ _ Hg1.out, HSZ.out, hc, by omega, HST.out, .inl rfl, (Kp2.of HG.out g).setRow (.inl rfl) ROW⟩
set_option maxRecDepth 100000 in
set_option maxHeartbeats 1000000 in
theorem bufWriteRowGrows (b q g l c : Nat) (T : TypeId) (cs cur : Array Value) (lr : Int) (a : Addr) (cp : Nat) (p : List Int) (w : World) (hb : w.heap[b]? = some (.cells cs T (0, 0))) (h0 : cs[q]? = some (.slice (some ⟨g, 0, none⟩) l c)) (h2 : cs[q + 2]? = some (.int .i8 lr))
    (hg : w.heap[g]? = some (.cells cur 5 (0, 0))) (hgb : ¬ g = b) (hcs : cur.size = c) (hlc : l ≤ c) (hc : c ≤ maxLen) (all : List Value) (hall : cur.toList.take l ++ nums .u8 p = all)
    (hp : 0 < p.length) (hsrc : ∀ j v, (nums .u8 p)[j]? = some v → w.cell? (a.add j) = some v) (hab : a.block ≠ b) (hfit : c - l < p.length) (hlim : l + p.length ≤ 140737488355328) (h1 : cs[q + 1]? = some (.int .i64 0)) (h1c : ∀ v ∈ cur.toList.take l, v.oneCell' = true) :
    Calls Tryd.prog 58 #[.pointer (some ⟨b, q, none⟩), .slice (some a) p.length cp] w (RetWrite b q g T cs l p.length all w) := by
  have c2 := (xb_cell hb (q + 2)).trans h2
  have f2 := blk_free hb (q + 2)
  have hbs := xb_lt hb
  have hinfo : (Tryd.prog.info? 5).map (·.size) = some 1 := by kernel_rfl
  have hc' := hc
  unfold maxLen at hc'
  have hnl : (nums .u8 p).length = p.length := nums_length ..
  have BR : Hid (Calls Tryd.prog 80 #[.pointer (some ⟨b, q, none⟩), .int .i64 p.length] (w.setCell ⟨b, q + 2, none⟩ (.int .i8 0)) fun e w' => e = .returned (.tuple #[.int .i64 0, .bool false]) ∧ w' = w.setCell ⟨b, q + 2, none⟩ (.int .i8 0)) :=
    Lib.hid (bufNoRoom b q l c p.length _ _ ((set_in (by omega)).trans ((xb_cell hb q).trans h0)) hlc (by omega) hfit (by omega))
  have BG : Hid (Calls Tryd.prog 81 #[.pointer (some ⟨b, q, none⟩), .int .i64 p.length] (w.setCell ⟨b, q + 2, none⟩ (.int .i8 0)) (RetGrow b q T (cs.setIfInBounds (q + 2) (.int .i8 0)) l p.length (cur.toList.take l) (w.setCell ⟨b, q + 2, none⟩ (.int .i8 0)))) :=
    Lib.hid (bufGrowRow b q g l c p.length T _ cur _ (xb_set hb (q + 2) _) (by rw [Array.getElem?_setIfInBounds_ne (by omega)]; exact h0) (by rw [Array.getElem?_setIfInBounds_ne (by omega)]; exact h1) ((blk_set_other hgb).trans hg) hcs hlc hc (by omega) hfit hlim h1c)
  have hg0 : w.grownBy (w.setCell ⟨b, q + 2, none⟩ (.int .i8 0)) (some b) := grown_set (grown_refl _ _)
  have HG0 := Lib.hid hg0
  have HGW := Lib.hid hg
  have HQ := Lib.hid (show (cs.setIfInBounds (q + 2) (.int .i8 0)).size = cs.size by simp)
  have hq : q < cs.size := by have := (Array.getElem?_eq_some_iff.1 h0).1; exact this
  have HSRC := Lib.hid hsrc
  have HALL := Lib.hid hall
  have HNL := Lib.hid hnl
  have HINFO := Lib.hid hinfo
  clear hb h0 h1 h2 hg hg0 hsrc hall hnl hinfo h1c
  obtain ⟨n, hn⟩ : ∃ n, n = p.length := ⟨_, rfl⟩
  have HN := Lib.hid hn
  rw [← hn] at hp hfit BR BG hlim ⊢
  clear hn
  go_enter Tryd.func58, Tryd.ntmps58
  go_wp2_with fail
  refine BR.out.mono ?_
  rintro e w0 ⟨rfl, rfl⟩
  go_wp2_with fail
  refine BG.out.mono ?_
  rintro e w1 ⟨g2, c3, cur2, rfl, hb1, hg1, hs2, hm2, hl2, ht2, hn2, hgr⟩
  have hn2' : w.heap.size ≤ g2 := by simpa [World.setCell] using hn2
  have hgrw := grown_trans HG0.out hgr
  have hgb2 : ¬ g2 = b := by omega
  have d0 : w1.cell? ⟨b, q, none⟩ = some (.slice (some ⟨g2, 0, none⟩) (l + n) c3) := (xb_cell hb1 q).trans (Array.getElem?_setIfInBounds_self_of_lt (by rw [HQ.out]; exact hq))
  have hcp := run_copy_row (P := Tryd.prog) w1 22 22 3 5 g2 l n (c3 - l) a n cp cur2 5 (nums .u8 p) Tryd.underlying22 HINFO.out hg1 (by rw [HNL.out, HN.out]; exact (Nat.min_self _).symm) (fun j v hj => hgrw.cell (HSRC.out j v hj) (by rw [Lib.block_add]; exact fun e => hab (Option.some.inj e))) (by rw [HNL.out, ← HN.out]; omega) (nums_one p)
  have hst := (splice_take cur2 l (nums .u8 p) (by omega)).trans ((congrArg (· ++ nums .u8 p) ht2).trans HALL.out)
  have hsz : ((cur2.toList.take l ++ nums .u8 p ++ cur2.toList.drop (l + (nums .u8 p).length)).toArray).size = c3 := by
    simp only [List.size_toArray, List.length_append, List.length_take, List.length_drop, Array.length_toList]
    rw [HNL.out, ← HN.out]
    omega
  rw [HNL.out, ← HN.out] at hcp hst hsz
  generalize (cur2.toList.take l ++ nums .u8 p ++ cur2.toList.drop (l + n)).toArray = ROW at *
  have HG := Lib.hid hgrw
  have Hb1 := Lib.hid hb1
  have Hg1 := Lib.hid hg1
  have HST := Lib.hid hst
  have HSZ := Lib.hid hsz
  have hne : ¬ c3 = l := by omega
  have hm2' := hm2
  unfold maxLen at hm2'
  clear hb1 hg1 hgr BR BG HG0 HGW HQ HSRC HALL HNL HINFO HN hst hsz hgrw ht2 hs2
  go_wp2
  all_goals
    go_ret2
    exact ⟨g2, c3, ROW, by first | rfl | simp, (setRow_other w1 g2 b ROW (fun e => hgb2 e.symm)).trans Hb1.out, setRow_heap w1 g2 cur2 ROW _ _ Hg1.out, HSZ.out, hm2, hl2, HST.out, .inr hn2', (Kp2.of HG.out g).setRow (.inr hn2') ROW⟩

/-- Write onto a row, whatever the bytes. -/
theorem bufWriteRow (b q g l c : Nat) (T : TypeId) (cs cur : Array Value) (lr : Int) (A : Option Addr) (cp : Nat) (p : List Int) (w : World) (hb : w.heap[b]? = some (.cells cs T (0, 0))) (h0 : cs[q]? = some (.slice (some ⟨g, 0, none⟩) l c)) (h1 : cs[q + 1]? = some (.int .i64 0)) (h2 : cs[q + 2]? = some (.int .i8 lr))
    (hg : w.heap[g]? = some (.cells cur 5 (0, 0))) (hgb : ¬ g = b) (hcs : cur.size = c) (hlc : l ≤ c) (hc : c ≤ maxLen) (old : List Int) (hold : cur.toList.take l = nums .u8 old)
    (hC : Kd.C (Kd.int .u8) w A p.length p) (hab : ∀ a, A = some a → a.block ≠ b) (hlim : l + p.length ≤ 140737488355328) :
    Calls Tryd.prog 58 #[.pointer (some ⟨b, q, none⟩), .slice A p.length cp] w (RetWrite b q g T cs l p.length (nums .u8 (old ++ p)) w) := by
  by_cases hp : 0 < p.length
  · obtain ⟨g', o', rfl, _, hcell⟩ := C_base hC hp
    have hsrc : ∀ j v, (nums .u8 p)[j]? = some v → w.cell? ((⟨g', o', none⟩ : Addr).add j) = some v := by
      intro j v hj
      have hjl : j < p.length := by have := (List.getElem?_eq_some_iff.1 hj).1; rwa [nums_length] at this
      have hv : v = .int .u8 (p.getD j 0) := by
        simp only [nums, List.getElem?_map, List.getElem?_eq_getElem hjl, Option.map_some, Option.some.injEq] at hj
        rw [← hj, List.getD_eq_getElem?_getD, List.getElem?_eq_getElem hjl]; rfl
      rw [Lib.addr_add, hv]
      exact hcell j hjl
    have hall : cur.toList.take l ++ nums .u8 p = nums .u8 (old ++ p) := by rw [hold, nums_append]
    by_cases hfit : p.length ≤ c - l
    · exact bufWriteRowFits b q g l c T cs cur lr _ cp p w hb h0 h2 hg hgb hcs hlc hc _ hall hp hsrc (hab _ rfl) hfit
    · exact bufWriteRowGrows b q g l c T cs cur lr _ cp p w hb h0 h2 hg hgb hcs hlc hc _ hall hp hsrc (hab _ rfl) (by omega) hlim h1 (by rw [hold]; exact nums_one old)
  · have hz : p = [] := List.eq_nil_of_length_eq_zero (by omega)
    subst hz
    rw [List.append_nil]
    exact bufWriteRow0 b q g l c T cs cur lr A cp w hb h0 h2 hg hgb hcs hlc hc _ hold

def RetBytes (v : Value) (w : World) (e : Ending) (w' : World) : Prop := e = .returned v ∧ Drawn0 w w'
set_option maxHeartbeats 400000 in
theorem bufBytes (b q g l c : Nat) (w : World) (c0 : w.cell? ⟨b, q, none⟩ = some (.slice (some ⟨g, 0, none⟩) l c)) (c1 : w.cell? ⟨b, q + 1, none⟩ = some (.int .i64 0)) (hlc : l ≤ c) (hc : c ≤ 9223372036854775807) :
    Calls Tryd.prog 46 #[.pointer (some ⟨b, q, none⟩)] w (RetBytes (.slice (some ⟨g, 0, none⟩) l c) w) := by
  have q0 : (0 : Int) ≤ (l : Int) := by omega
  have q1 : (0 : Int) ≤ (c : Int) := by omega
  go_enter Tryd.func46, Tryd.ntmps46
  go_wp2
  go_quiet (fail)
  go_wp2
  go_ret
  exact ⟨ret_eq (by first | rfl | simp), ⟨_, rfl⟩⟩
end Go.Proofs.YtdnahdddkagfhaaDoor.X
