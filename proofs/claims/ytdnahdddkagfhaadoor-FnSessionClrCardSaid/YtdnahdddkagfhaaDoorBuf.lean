/- (*bytes.Buffer).Write, Bytes: a buffer in the cells q, q+1, q+2 of a block; what each call leaves, and that all other blocks but the buffer's row are as they were. -/
import Derived.Test.YtdnahdddkagfhaaDoorProg
import Derived.Test.YtdnahdddkagfhaaDoorKit
import Derived.Test.YtdnahdddkagfhaaDoorShelf
import Derived.Deep.RegionHeld3
import Derived.Deep.RegionWith
import Derived.Laws.CopyOwn
import Derived.Lib.BufferMore
import Derived.Lib.BufferGrow
namespace Go.Proofs.YtdnahdddkagfhaaDoor.X
open Go.RowKit Go.Proofs.YtdnahdddkagfhaaDoorW.PrintWords Go.Proofs.YtdnahdddkagfhaaDoorW.PrintMore
attribute [local go_sem] setCell_drewN alloc_drewN
set_option linter.unusedVariables false

def RetLen (n : Nat) (w : World) (e : Ending) (w' : World) : Prop := e = .returned (.int .i64 n) ∧ Drawn0 w w'
set_option maxHeartbeats 400000 in
theorem bufLen (b q l c : Nat) (A : Option Addr) (w : World) (c0 : w.cell? ⟨b, q, none⟩ = some (.slice A l c)) (c1 : w.cell? ⟨b, q + 1, none⟩ = some (.int .i64 0)) (hl : l ≤ 9223372036854775807) :
    Calls Tryd.prog 86 #[.pointer (some ⟨b, q, none⟩)] w (RetLen l w) := by
  go_enter Tryd.func86, Tryd.ntmps86
  go_wp2
  go_quiet (fail)
  go_wp2
  go_ret
  exact ⟨ret_eq (by simp), ⟨_, rfl⟩⟩
set_option maxHeartbeats 400000 in
theorem bufRoom (b q l c n : Nat) (A : Option Addr) (w : World) (c0 : w.cell? ⟨b, q, none⟩ = some (.slice A l c)) (f0 : w.frozen? ⟨b, q, none⟩ = false) (hlc : l ≤ c) (hc : c ≤ 9223372036854775807) (hn : n ≤ c - l) :
    Calls Tryd.prog 80 #[.pointer (some ⟨b, q, none⟩), .int .i64 n] w fun e w' => e = .returned (.tuple #[.int .i64 l, .bool true]) ∧ w' = w.setCell ⟨b, q, none⟩ (.slice A (l + n) c) := by
  go_enter Tryd.func80, Tryd.ntmps80
  go_wp2
  go_ret2
  exact ⟨rfl, rfl⟩
set_option maxHeartbeats 400000 in
theorem bufNoRoom (b q l c n : Nat) (A : Option Addr) (w : World) (c0 : w.cell? ⟨b, q, none⟩ = some (.slice A l c)) (hlc : l ≤ c) (hc : c ≤ 9223372036854775807) (hn : c - l < n) (hn2 : n ≤ 9223372036854775807) :
    Calls Tryd.prog 80 #[.pointer (some ⟨b, q, none⟩), .int .i64 n] w fun e w' => e = .returned (.tuple #[.int .i64 0, .bool false]) ∧ w' = w := by
  go_enter Tryd.func80, Tryd.ntmps80
  go_wp2
  go_ret2
  exact ⟨rfl, rfl⟩

/-- Behind grow: a new row with room, which begins with what the old one held. -/
def RetGrow (b q : Nat) (T : TypeId) (cs : Array Value) (l n : Nat) (old : List Value) (w : World) (e : Ending) (w' : World) : Prop :=
  ∃ g cap cur, e = .returned (.int .i64 l) ∧ w'.heap[b]? = some (.cells (cs.setIfInBounds q (.slice (some ⟨g, 0, none⟩) (l + n) cap)) T (0, 0)) ∧ w'.heap[g]? = some (.cells cur 5 (0, 0)) ∧ cur.size = cap ∧ cap ≤ maxLen ∧ l + n ≤ cap ∧ cur.toList.take l = old ∧ w.heap.size ≤ g ∧ w.grownBy w' (some b)
theorem set_same {cs : Array Value} {i : Nat} {v : Value} (h : cs[i]? = some v) : cs.setIfInBounds i v = cs := by
  apply Array.ext_getElem?
  intro j
  by_cases hj : j = i
  · subst hj
    have := (Array.getElem?_eq_some_iff.1 h).1
    rw [Array.getElem?_setIfInBounds_self_of_lt this, h]
  · rw [Array.getElem?_setIfInBounds_ne (by omega)]
theorem set_twice (cs : Array Value) (i : Nat) (u v : Value) : (cs.setIfInBounds i u).setIfInBounds i v = cs.setIfInBounds i v := by
  apply Array.ext_getElem?
  intro j
  by_cases hj : j = i
  · subst hj
    by_cases hs : j < cs.size
    · rw [Array.getElem?_setIfInBounds_self_of_lt (by simpa using hs), Array.getElem?_setIfInBounds_self_of_lt hs]
    · rw [Array.getElem?_eq_none (by simp; omega), Array.getElem?_eq_none (by simp; omega)]
  · rw [Array.getElem?_setIfInBounds_ne (by omega), Array.getElem?_setIfInBounds_ne (by omega), Array.getElem?_setIfInBounds_ne (by omega)]
theorem set_swap (cs : Array Value) {i k : Nat} (h : i ≠ k) (u v : Value) : (cs.setIfInBounds i u).setIfInBounds k v = (cs.setIfInBounds k v).setIfInBounds i u := by
  apply Array.ext_getElem?
  intro j
  by_cases hj : j = i
  · subst hj
    rw [Array.getElem?_setIfInBounds_ne (by omega)]
    by_cases hs : j < cs.size
    · rw [Array.getElem?_setIfInBounds_self_of_lt hs, Array.getElem?_setIfInBounds_self_of_lt (by simpa using hs)]
    · rw [Array.getElem?_eq_none (by simp; omega), Array.getElem?_eq_none (by simp; omega)]
  · by_cases hk : j = k
    · subst hk
      by_cases hs : j < cs.size
      · rw [Array.getElem?_setIfInBounds_self_of_lt (by simpa using hs), Array.getElem?_setIfInBounds_ne (by omega), Array.getElem?_setIfInBounds_self_of_lt hs]
      · rw [Array.getElem?_eq_none (by simp; omega), Array.getElem?_eq_none (by simp; omega)]
    · rw [Array.getElem?_setIfInBounds_ne (by omega), Array.getElem?_setIfInBounds_ne (by omega), Array.getElem?_setIfInBounds_ne (by omega), Array.getElem?_setIfInBounds_ne (by omega)]

theorem grow_cells {cs : Array Value} {q : Nat} {a v : Value} (h1 : cs[q + 1]? = some (.int .i64 0)) : ((cs.setIfInBounds q a).setIfInBounds (q + 1) (.int .i64 0)).setIfInBounds q v = cs.setIfInBounds q v := by rw [set_swap cs (by omega) a _, set_same h1, set_twice]
set_option maxRecDepth 100000 in
set_option maxHeartbeats 2000000 in
theorem bufGrowRow (b q g l c n : Nat) (T : TypeId) (cs cur : Array Value) (w : World) (hb : w.heap[b]? = some (.cells cs T (0, 0))) (h0 : cs[q]? = some (.slice (some ⟨g, 0, none⟩) l c)) (h1 : cs[q + 1]? = some (.int .i64 0))
    (hg : w.heap[g]? = some (.cells cur 5 (0, 0))) (hcs : cur.size = c) (hlc : l ≤ c) (hc : c ≤ maxLen) (hn : 1 ≤ n) (hroom : c - l < n) (hlim : l + n ≤ 140737488355328) (h1c : ∀ v ∈ cur.toList.take l, v.oneCell' = true) :
    Calls Tryd.prog 81 #[.pointer (some ⟨b, q, none⟩), .int .i64 n] w (RetGrow b q T cs l n (cur.toList.take l) w) := by
  have hnil : ∀ W, (binOp .eql 22 (.slice (some ⟨g, 0, none⟩) l c) (.slice none 0 0)).run Tryd.prog W = .ok (.bool false) W := fun W => Lib.run_eql_slice_some_nil W _ _ _ Tryd.underlying22
  have c0 := (xb_cell hb q).trans h0
  have c1 := (xb_cell hb (q + 1)).trans h1
  have f0 := blk_free hb q
  have f1 := blk_free hb (q + 1)
  have hbs := xb_lt hb
  have GS : Hid (∀ W, Below w.heap.size w W → Calls Tryd.prog 88 #[.slice (some ⟨g, 0, none⟩) l c, .int .i64 n] W fun e w' => ∃ cap2 cells, e = .returned (.slice (some ⟨W.heap.size, 0, none⟩) l cap2) ∧ w'.heap[W.heap.size]? = some (.cells cells 5 (0, 0)) ∧ cells.size = cap2 ∧ cells.toList.take l = cur.toList.take l ∧ l + n ≤ cap2 ∧ cap2 ≤ maxLen ∧ Below W.heap.size W w') :=
    Lib.hid fun W hW => Tryd.bytes_growSlice_row g l c n cur W (blk_bl hg hW (xb_lt hg)) hcs hlc hn hlim (by omega) h1c
  have BL : Hid (Calls Tryd.prog 86 #[.pointer (some ⟨b, q, none⟩)] w (RetLen l w)) := Lib.hid (bufLen b q l c _ w c0 c1 (by unfold maxLen at hc; omega))
  have BN : Hid (∀ W, W.cell? ⟨b, q, none⟩ = some (.slice (some ⟨g, 0, none⟩) l c) → Calls Tryd.prog 80 #[.pointer (some ⟨b, q, none⟩), .int .i64 n] W fun e w' => e = .returned (.tuple #[.int .i64 0, .bool false]) ∧ w' = W) :=
    Lib.hid fun W d0 => bufNoRoom b q l c n _ W d0 hlc (by unfold maxLen at hc; omega) hroom (by omega)
  have HB := Lib.hid hb
  have H1 := Lib.hid h1
  have HW : Hid (∀ W, Below w.heap.size w W → W.cell? ⟨b, q, none⟩ = some (.slice (some ⟨g, 0, none⟩) l c) ∧ W.cell? ⟨b, q + 1, none⟩ = some (.int .i64 0) ∧ W.frozen? ⟨b, q, none⟩ = false ∧ W.frozen? ⟨b, q + 1, none⟩ = false) := Lib.hid fun W hW => ⟨bl_cell hW c0, bl_cell hW c1, (hW.frozen (p := ⟨b, q, none⟩) hbs).trans f0, (hW.frozen (p := ⟨b, q + 1, none⟩) hbs).trans f1⟩
  have hc' := hc
  unfold maxLen at hc'
  clear hb h0 h1 hg h1c
  have hwn : IntKind.i64.wrap (n : Int) = n := by rw [IntKind.wrap_i64]; omega
  obtain ⟨bz, hbz⟩ : ∃ z, ((l : Int) == 0) = z := ⟨_, rfl⟩
  cases bz
  all_goals
    go_enter Tryd.func81, Tryd.ntmps81
    go_wp2_with fail
    refine BL.out.mono ?_
    rintro e w1 ⟨rfl, hd⟩
    obtain ⟨d, rfl⟩ := hd.out
    clear hd
    go_wp2_with fail
    refine (BN.out _ (by exact c0)).mono ?_
    rintro e w2 ⟨rfl, rfl⟩
    have hcn : ¬ (n : Int) ≤ (c : Int) / 2 - (l : Int) := by omega
    have hcm : ¬ (9223372036854775807 : Int) - (c : Int) - (n : Int) < (c : Int) := by omega
    go_wp2_with fail
    clear hnil BN BL
    go_region_with (
      go_at_call 88
      refine (GS.out _ ?_).mono ?_
      exact bl_drewN w (d + 1)
      rintro e w2 ⟨cap2, cells, rfl, hN, hcsz, htk, hcap2, hcm2, hbel⟩
      have HWW := Lib.hid (bl_trans (bl_drewN w (d + 1)) hbel)
      obtain ⟨k0, k1, kf0, kf1⟩ := HW.out w2 HWW.out
      have HN := Lib.hid hN
      have HT := Lib.hid htk
      have HS := Lib.hid hcsz
      clear hN htk hcsz hbel)
    all_goals (
      go_wp2
      go_ret
      have hne : ¬ w.heap.size = b := by omega
      refine ⟨w.heap.size, cap2, cells, rfl, ?_, ?_, HS.out, hcm2, hcap2, HT.out, Nat.le_refl _, grown_set (grown_set (grown_set (grown_bl (grown_refl _ _) HWW.out)))⟩
      · rw [← grow_cells H1.out]
        exact xb_set (xb_set (xb_set (blk_bl HB.out HWW.out hbs) q _) (q + 1) _) q _
      · rw [blk_set_other hne, blk_set_other hne, blk_set_other hne]
        exact HN.out)
end Go.Proofs.YtdnahdddkagfhaaDoor.X
