/- A buffer in a block of more cells, whatever it holds: its state, its steps; a session that writes. -/
import Derived.Test.YtdnahdddkagfhaaDoorWs
namespace Go.Proofs.YtdnahdddkagfhaaDoor.X
open Go.RowKit Go.Proofs.YtdnahdddkagfhaaDoorW.PrintWords Go.Proofs.YtdnahdddkagfhaaDoorW.PrintMore
attribute [local go_sem] setCell_drewN alloc_drewN
set_option linter.unusedVariables false
set_option linter.unusedSimpArgs false
/-- A buffer at q of block b (cells cs, type T) that holds out, in the row g (g = b: none yet). -/
structure BufA (w : World) (b q g : Nat) (T : TypeId) (cs : Array Value) (out : List Int) : Prop where
  blk : w.heap[b]? = some (.cells cs T (0, 0))
  off : cs[q + 1]? = some (.int .i64 0)
  lr : ∃ lr, cs[q + 2]? = some (.int .i8 lr)
  row : (cs[q]? = some (.slice none 0 0) ∧ out = [] ∧ g = b) ∨ (¬ g = b ∧ ∃ cap cur, cs[q]? = some (.slice (some ⟨g, 0, none⟩) out.length cap) ∧ w.heap[g]? = some (.cells cur 5 (0, 0)) ∧ cur.size = cap ∧ cap ≤ maxLen ∧ out.length ≤ cap ∧ cur.toList.take out.length = nums .u8 out)
/-- What a step leaves. -/
structure BufS (w w' : World) (b q g g' : Nat) (T : TypeId) (cs cs' : Array Value) (out' : List Int) : Prop where
  now : BufA w' b q g' T cs' out'
  cells : ∀ i, i < q ∨ q + 2 < i → cs'[i]? = cs[i]?
  size : cs'.size = cs.size
  row : g' = g ∨ w.heap.size ≤ g'
  kept : Kp2 w w' b g
section
variable {w w' : World} {b q g g' g'' : Nat} {T : TypeId} {cs cs' cs'' : Array Value} {out out' out'' : List Int}
theorem BufA.keep (h : BufA w b q g T cs out) (hb : w'.heap[b]? = w.heap[b]?) (hg : w'.heap[g]? = w.heap[g]?) : BufA w' b q g T cs out := by
  obtain ⟨h1, h2, h3, h4⟩ := h
  refine ⟨hb.trans h1, h2, h3, ?_⟩
  rcases h4 with h4 | ⟨h4, cap, cur, h5, h6, h7⟩
  · exact .inl h4
  · exact .inr ⟨h4, cap, cur, h5, hg.trans h6, h7⟩
theorem BufA.lt (h : BufA w b q g T cs out) : b < w.heap.size := xb_lt h.blk
theorem BufA.ltg (h : BufA w b q g T cs out) : g < w.heap.size := by
  rcases h.row with ⟨_, _, rfl⟩ | ⟨_, cap, cur, _, h6, _⟩
  · exact h.lt
  · exact xb_lt h6
theorem BufA.bl (h : BufA w b q g T cs out) (k : Below w.heap.size w w') : BufA w' b q g T cs out := h.keep (k.block b h.lt) (k.block g h.ltg)
theorem BufA.grown {r : Option Nat} (h : BufA w b q g T cs out) (k : w.grownBy w' r) (hb : some b ≠ r) (hg : some g ≠ r) : BufA w' b q g T cs out := h.keep (k.block b h.lt hb) (k.block g h.ltg hg)
theorem BufA.len (h : BufA w b q g T cs out) : out.length ≤ maxLen := by
  rcases h.row with ⟨_, rfl, _⟩ | ⟨_, cap, cur, _, _, _, h7, h8, _⟩
  · exact Nat.zero_le _
  · exact Nat.le_trans h8 h7
theorem kp2_comp {w1 w2 : World} {g1 : Nat} (h : Kp2 w w1 b g) (k : Kp2 w1 w2 b g1) (hg : g1 = g ∨ w.heap.size ≤ g1) : Kp2 w w2 b g :=
  ⟨k.os.trans h.os, k.tape.trans h.tape, k.output.trans h.output, Nat.le_trans h.size k.size, fun i hi hb hgi => (k.block i (Nat.lt_of_lt_of_le hi h.size) hb (by rcases hg with rfl | hg <;> omega)).trans (h.block i hi hb hgi)⟩
theorem kp2_bl {w1 w2 : World} (h : Kp2 w w1 b g) (k : Below w1.heap.size w1 w2) : Kp2 w w2 b g :=
  ⟨k.os.trans h.os, k.tape.trans h.tape, k.output.trans h.output, Nat.le_trans h.size k.size, fun i hi hb hgi => (k.block i (Nat.lt_of_lt_of_le hi h.size)).trans (h.block i hi hb hgi)⟩
theorem kp2_blB {w1 w2 : World} {B : Nat} (h : Kp2 w w1 b g) (k : Below B w1 w2) (hB : w.heap.size ≤ B) : Kp2 w w2 b g :=
  ⟨k.os.trans h.os, k.tape.trans h.tape, k.output.trans h.output, Nat.le_trans h.size k.size, fun i hi hb hgi => (k.block i (by omega)).trans (h.block i hi hb hgi)⟩
theorem kp2_of_bl {w1 : World} (k : Below w.heap.size w w1) (b g : Nat) : Kp2 w w1 b g := ⟨k.os, k.tape, k.output, k.size, fun i hi _ _ => k.block i hi⟩
theorem BufS.trans {w'' : World} (h : BufS w w' b q g g' T cs cs' out') (k : BufS w' w'' b q g' g'' T cs' cs'' out'') : BufS w w'' b q g g'' T cs cs'' out'' :=
  ⟨k.now, fun i hi => (k.cells i hi).trans (h.cells i hi), k.size.trans h.size, by
    have := h.kept.size
    rcases k.row with rfl | hk
    · exact h.row
    · exact .inr (by omega), kp2_comp h.kept k.kept h.row⟩
theorem BufS.after {w'' : World} (h : BufS w w' b q g g' T cs cs' out') (k : Below w'.heap.size w' w'') : BufS w w'' b q g g' T cs cs' out' := ⟨h.now.bl k, h.cells, h.size, h.row, kp2_bl h.kept k⟩
theorem BufS.of (h : BufA w b q g T cs out) : BufS w w b q g g T cs cs out := ⟨h, fun _ _ => rfl, rfl, .inl rfl, ⟨rfl, rfl, rfl, Nat.le_refl _, fun _ _ _ _ => rfl⟩⟩
/-- What lay there stays, but for b and g. -/
theorem BufS.cell (h : BufS w w' b q g g' T cs cs' out') {a : Addr} {v : Value} (hc : w.cell? a = some v) (hb : a.block ≠ b) (hg : a.block ≠ g) : w'.cell? a = some v :=
  (World.cell?_of_block (a := a) (h.kept.block a.block (World.block_lt_of_cell? w a hc) hb hg)).trans hc
/-- From the world before. -/
theorem BufS.from {w0 : World} (k : Below w0.heap.size w0 w) (h : BufS w w' b q g g' T cs cs' out') (hz : g < w0.heap.size) : BufS w0 w' b q g g' T cs cs' out' :=
  ⟨h.now, h.cells, h.size, by have := h.row; have := k.size; omega, kp2_comp (kp2_of_bl k b g) h.kept (.inl rfl)⟩
theorem rest_cells (i : Nat) (u v : Value) (hi : i < q ∨ q + 2 < i) : ((cs.setIfInBounds (q + 2) u).setIfInBounds q v)[i]? = cs[i]? := by
  rw [Array.getElem?_setIfInBounds_ne (by omega), Array.getElem?_setIfInBounds_ne (by omega)]
theorem row_of_step {n cap : Nat} {all : List Int} (h1 : cs[q + 1]? = some (.int .i64 0)) (h2 : q + 2 < cs.size) (hb : w'.heap[b]? = some (.cells ((cs.setIfInBounds (q + 2) (.int .i8 0)).setIfInBounds q (.slice (some ⟨g', 0, none⟩) n cap)) T (0, 0))) {cur : Array Value} (hg : w'.heap[g']? = some (.cells cur 5 (0, 0))) (hs : cur.size = cap) (hm : cap ≤ maxLen) (hl : n ≤ cap) (ht : cur.toList.take n = nums .u8 all) (hn : all.length = n) (hgb : ¬ g' = b) (hrow : g' = g ∨ w.heap.size ≤ g') (hk : Kp2 w w' b g) : ∃ g' cs', BufS w w' b q g g' T cs cs' all := by
  refine ⟨g', _, ⟨⟨hb, ?_, ⟨0, ?_⟩, .inr ⟨hgb, cap, cur, ?_, hg, hs, hm, by omega, by rw [hn]; exact ht⟩⟩, fun i hi => rest_cells i _ _ hi, by simp, hrow, hk⟩⟩
  · rw [Array.getElem?_setIfInBounds_ne (by omega), Array.getElem?_setIfInBounds_ne (by omega)]
    exact h1
  · rw [Array.getElem?_setIfInBounds_ne (by omega)]
    exact arr_self h2
  · rw [hn]
    exact arr_self (by rw [Array.size_setIfInBounds]; omega)
end
/-- A step's post: what is returned, and that the buffer holds out' behind it. -/
def BufP (v : Value) (b q g : Nat) (T : TypeId) (cs : Array Value) (out' : List Int) (w : World) (e : Ending) (w' : World) : Prop := e = .returned v ∧ ∃ g' cs', BufS w w' b q g g' T cs cs' out'
theorem writeByte_any (b q g : Nat) (T : TypeId) (cs : Array Value) (out : List Int) (x : Int) (w : World) (h : BufA w b q g T cs out) (hlim : out.length + 1 ≤ 140737488355328) :
    Calls Tryd.prog 59 #[.pointer (some ⟨b, q, none⟩), .int .u8 x] w (BufP .nilIface b q g T cs (out ++ [x]) w) := by
  have hlt := h.ltg
  obtain ⟨hb, h1, ⟨lr, h2⟩, h4⟩ := h
  have hb' := xb_lt hb
  have hsz := (Array.getElem?_eq_some_iff.1 h2).1
  rcases h4 with ⟨h0, rfl, rfl⟩ | ⟨hgb, cap, cur, h0, hg, hcs, hcm, hlc, hold⟩
  · refine (writeByteGrowsAny g q w.heap.size 0 0 none T cs [] lr x w hb h0 h2 (Nat.le_refl _) (by omega) (Nat.zero_le _) (by omega) (nums .u8 ([] ++ [x])) rfl (grow_nil_any g q 1 T _ _ (xb_set hb (q + 2) _) (by rw [Array.getElem?_setIfInBounds_ne (by omega)]; exact h0) (by rw [Array.getElem?_setIfInBounds_ne (by omega)]; exact h1) (by omega) (by omega))).mono ?_
    rintro e w' ⟨g', cap, cur, rfl, hb1, hg1, hs, hm, hl, ht, hrow, hk⟩
    have hrow' : w.heap.size ≤ g' := by rcases hrow with rfl | h <;> omega
    exact ⟨rfl, row_of_step h1 hsz hb1 hg1 hs hm hl ht rfl (by omega) (.inr hrow') ⟨hk.os, hk.tape, hk.output, hk.size, fun k hk' hb' _ => hk.block k hk' hb' (by omega)⟩⟩
  · have hall : cur.toList.take out.length ++ [.int .u8 x] = nums .u8 (out ++ [x]) := by rw [hold, nums_append]; rfl
    have fin : ∀ e w', RetB b q g T cs out.length (nums .u8 (out ++ [x])) w e w' → BufP .nilIface b q g T cs (out ++ [x]) w e w' := by
      rintro e w' ⟨g', cap', cur', rfl, hb1, hg1, hs, hm, hl, ht, hrow, hk⟩
      exact ⟨rfl, row_of_step h1 hsz hb1 hg1 hs hm hl ht (by simp) (by rcases hrow with rfl | h <;> omega) hrow hk⟩
    by_cases hfit : out.length < cap
    · exact (writeByteFits b q g out.length cap T cs cur lr x w hb h0 h2 hg hgb hcs hfit hcm _ hall).mono fin
    · refine (writeByteGrowsAny b q g out.length cap _ T cs (nums .u8 out) lr x w hb h0 h2 hlc (by omega) hcm hlim _ (by rw [← hold]; exact hall) ?_).mono fin
      have hgr := bufGrowRow b q g out.length cap 1 T (cs.setIfInBounds (q + 2) (.int .i8 0)) cur (w.setCell ⟨b, q + 2, none⟩ (.int .i8 0)) (xb_set hb (q + 2) _) (by rw [Array.getElem?_setIfInBounds_ne (by omega)]; exact h0) (by rw [Array.getElem?_setIfInBounds_ne (by omega)]; exact h1) ((blk_set_other hgb).trans hg) hcs hlc hcm (by omega) (by omega) hlim (by rw [hold]; exact nums_one out)
      rw [hold] at hgr
      exact hgr
theorem src_of_C {w : World} {A : Option Addr} {p : List Int} (h : Kd.C (Kd.int .u8) w A p.length p) (hp : 0 < p.length) : ∃ a, A = some a ∧ ∀ j v, (nums .u8 p)[j]? = some v → w.cell? (a.add j) = some v := by
  obtain ⟨g', o', rfl, _, hcell⟩ := C_base h hp
  refine ⟨_, rfl, fun j v hj => ?_⟩
  have hjl : j < p.length := by have := (List.getElem?_eq_some_iff.1 hj).1; rwa [nums_length] at this
  have hv : v = .int .u8 (p.getD j 0) := by
    simp only [nums, List.getElem?_map, List.getElem?_eq_getElem hjl, Option.map_some, Option.some.injEq] at hj
    rw [← hj, List.getD_eq_getElem?_getD, List.getElem?_eq_getElem hjl]; rfl
  rw [Lib.addr_add, hv]
  exact hcell j hjl
theorem write_any (b q g : Nat) (T : TypeId) (cs : Array Value) (out p : List Int) (A : Option Addr) (cp : Nat) (w : World) (h : BufA w b q g T cs out) (hC : Kd.C (Kd.int .u8) w A p.length p) (hab : ∀ a, A = some a → a.block ≠ b) (hlim : out.length + p.length ≤ 140737488355328) :
    Calls Tryd.prog 58 #[.pointer (some ⟨b, q, none⟩), .slice A p.length cp] w (BufP (.tuple #[.int .i64 p.length, .nilIface]) b q g T cs (out ++ p) w) := by
  have hlt := h.ltg
  obtain ⟨hb, h1, ⟨lr, h2⟩, h4⟩ := h
  have hb' := xb_lt hb
  have hsz := (Array.getElem?_eq_some_iff.1 h2).1
  rcases h4 with ⟨h0, rfl, rfl⟩ | ⟨hgb, cap, cur, h0, hg, hcs, hcm, hlc, hold⟩
  · by_cases hp : 0 < p.length
    · obtain ⟨a, rfl, hsrc⟩ := src_of_C hC hp
      refine (bufWriteGrowsAny g q w.heap.size 0 0 none T cs [] lr a cp p w hb h0 h2 (Nat.le_refl _) (Nat.zero_le _) (nums .u8 ([] ++ p)) rfl rfl hp hsrc (hab _ rfl) (by omega) (by simpa using hlim) (by simp) (grow_nil_any g q p.length T _ _ (xb_set hb (q + 2) _) (by rw [Array.getElem?_setIfInBounds_ne (by omega)]; exact h0) (by rw [Array.getElem?_setIfInBounds_ne (by omega)]; exact h1) (by omega) (by simpa using hlim))).mono ?_
      rintro e w' ⟨g', cap, cur, rfl, hb1, hg1, hs, hm, hl, ht, hrow, hk⟩
      have hrow' : w.heap.size ≤ g' := by rcases hrow with rfl | h <;> omega
      exact ⟨rfl, row_of_step h1 hsz hb1 hg1 hs hm hl (by simpa using ht) (by simp) (by omega) (.inr hrow') ⟨hk.os, hk.tape, hk.output, hk.size, fun k hk' hb' _ => hk.block k hk' hb' (by omega)⟩⟩
    · have hz : p = [] := List.eq_nil_of_length_eq_zero (by omega)
      subst hz
      refine (bufWriteNone g q T cs lr A cp w hb h0 h2).mono ?_
      rintro e w' ⟨rfl, hb1, hk⟩
      refine ⟨rfl, g, _, ⟨⟨hb1, ?_, ⟨0, ?_⟩, .inl ⟨?_, rfl, rfl⟩⟩, fun i hi => rest_cells i _ _ hi, by simp, .inl rfl, Kp2.of hk g⟩⟩
      · rw [Array.getElem?_setIfInBounds_ne (by omega), Array.getElem?_setIfInBounds_ne (by omega)]
        exact h1
      · rw [Array.getElem?_setIfInBounds_ne (by omega)]
        exact arr_self hsz
      · exact arr_self (by rw [Array.size_setIfInBounds]; omega)
  · refine (bufWriteRow b q g out.length cap T cs cur lr A cp p w hb h0 h1 h2 hg hgb hcs hlc hcm out hold hC hab hlim).mono ?_
    rintro e w' ⟨g', cap', cur', rfl, hb1, hg1, hs, hm, hl, ht, hrow, hk⟩
    exact ⟨rfl, row_of_step h1 hsz hb1 hg1 hs hm hl ht (by simp) (by rcases hrow with rfl | h <;> omega) hrow hk⟩
namespace Ses
/-- The cells of a session that only writes. -/
def cellsW (v : Value) (lr : Int) (big : Bool) (chunk : Int) : Array Value := #[.slice none 0 0, v, .int .i64 0, .int .i8 lr, .int .i64 0, .bool big, .int .i64 chunk]
/-- A session at block b that has written out. -/
structure WS (w : World) (b g : Nat) (big : Bool) (chunk : Int) (out : List Int) : Prop where
  ex : ∃ v lr, BufA w b 1 g 82 (cellsW v lr big chunk) out
/-- What a step that writes leaves. -/
structure WStep (w w' : World) (b g g' : Nat) (big : Bool) (chunk : Int) (out' : List Int) : Prop where
  now : WS w' b g' big chunk out'
  row : g' = g ∨ w.heap.size ≤ g'
  kept : Kp2 w w' b g
def WP (v : Value) (b g : Nat) (big : Bool) (chunk : Int) (out' : List Int) (w : World) (e : Ending) (w' : World) : Prop := e = .returned v ∧ ∃ g', WStep w w' b g g' big chunk out'
theorem cellsW_of {cs : Array Value} {v v' : Value} {lr lr' : Int} {big : Bool} {chunk : Int} (hs : cs.size = 7) (h : ∀ i, i < 1 ∨ 1 + 2 < i → cs[i]? = (cellsW v lr big chunk)[i]?) (h1 : cs[1]? = some v') (h2 : cs[1 + 1]? = some (.int .i64 0)) (h3 : cs[1 + 2]? = some (.int .i8 lr')) : cs = cellsW v' lr' big chunk := by
  apply Array.ext_getElem?
  intro i
  match i with
  | 0 => exact h 0 (by omega)
  | 1 => exact h1
  | 2 => exact h2
  | 3 => exact h3
  | 4 => exact h 4 (by omega)
  | 5 => exact h 5 (by omega)
  | 6 => exact h 6 (by omega)
  | i + 7 =>
    rw [Array.getElem?_eq_none (by omega), Array.getElem?_eq_none]
    show 7 ≤ i + 7
    omega
theorem WP.of {r : Value} {b g : Nat} {v : Value} {lr : Int} {big : Bool} {chunk : Int} {out' : List Int} {w w' : World} {e : Ending} (h : BufP r b 1 g 82 (cellsW v lr big chunk) out' w e w') : WP r b g big chunk out' w e w' := by
  obtain ⟨he, g', cs', hS⟩ := h
  refine ⟨he, g', ⟨?_, hS.row, hS.kept⟩⟩
  obtain ⟨lr', h3⟩ := hS.now.lr
  have hv : ∃ v', cs'[1]? = some v' := by
    rcases hS.now.row with ⟨h, _⟩ | ⟨_, cap, cur, h, _⟩
    · exact ⟨_, h⟩
    · exact ⟨_, h⟩
  obtain ⟨v', h1⟩ := hv
  have e := cellsW_of (show cs'.size = 7 from hS.size) hS.cells h1 hS.now.off h3
  exact ⟨v', lr', e ▸ hS.now⟩
section
variable {w w' w'' : World} {b g g' g'' : Nat} {big : Bool} {chunk : Int} {out out' out'' : List Int}
theorem WS.lt (h : WS w b g big chunk out) : b < w.heap.size := by obtain ⟨v, lr, h⟩ := h.ex; exact h.lt
theorem WS.ltg (h : WS w b g big chunk out) : g < w.heap.size := by obtain ⟨v, lr, h⟩ := h.ex; exact h.ltg
theorem WS.bl (h : WS w b g big chunk out) (k : Below w.heap.size w w') : WS w' b g big chunk out := by obtain ⟨v, lr, h⟩ := h.ex; exact ⟨v, lr, h.bl k⟩
theorem WS.grown {r : Option Nat} (h : WS w b g big chunk out) (k : w.grownBy w' r) (hb : some b ≠ r) (hg : some g ≠ r) : WS w' b g big chunk out := by obtain ⟨v, lr, h⟩ := h.ex; exact ⟨v, lr, h.grown k hb hg⟩
theorem WS.c5 (h : WS w b g big chunk out) : w.cell? ⟨b, 5, none⟩ = some (.bool big) := by obtain ⟨v, lr, h⟩ := h.ex; exact (xb_cell h.blk 5).trans rfl
theorem WS.c6 (h : WS w b g big chunk out) : w.cell? ⟨b, 6, none⟩ = some (.int .i64 chunk) := by obtain ⟨v, lr, h⟩ := h.ex; exact (xb_cell h.blk 6).trans rfl
theorem WStep.trans (h : WStep w w' b g g' big chunk out') (k : WStep w' w'' b g' g'' big chunk out'') : WStep w w'' b g g'' big chunk out'' :=
  ⟨k.now, by
    have := h.kept.size
    rcases k.row with rfl | hk
    · exact h.row
    · exact .inr (by omega), kp2_comp h.kept k.kept h.row⟩
theorem WStep.after (h : WStep w w' b g g' big chunk out') (k : Below w'.heap.size w' w'') : WStep w w'' b g g' big chunk out' := ⟨h.now.bl k, h.row, kp2_bl h.kept k⟩
theorem WStep.of (h : WS w b g big chunk out) : WStep w w b g g big chunk out := ⟨h, .inl rfl, ⟨rfl, rfl, rfl, Nat.le_refl _, fun _ _ _ _ => rfl⟩⟩
theorem WStep.cell (h : WStep w w' b g g' big chunk out') {a : Addr} {v : Value} (hc : w.cell? a = some v) (hb : a.block ≠ b) (hg : a.block ≠ g) : w'.cell? a = some v :=
  (World.cell?_of_block (a := a) (h.kept.block a.block (World.block_lt_of_cell? w a hc) hb hg)).trans hc
theorem WStep.prior {w0 : World} (k : Below w0.heap.size w0 w) (h : WStep w w' b g g' big chunk out') (hz : g < w0.heap.size) : WStep w0 w' b g g' big chunk out' :=
  ⟨h.now, by have := h.row; have := k.size; omega, kp2_comp (kp2_of_bl k b g) h.kept (.inl rfl)⟩
theorem C_kp2 {A : Option Addr} {l : List Int} (h : Kd.C (Kd.int .u8) w A l.length l) (k : Kp2 w w' b g) (hb : ∀ a, A = some a → a.block ≠ b) (hg : ∀ a, A = some a → a.block ≠ g) : Kd.C (Kd.int .u8) w' A l.length l := by
  by_cases hn : 0 < l.length
  · obtain ⟨g0, o, rfl, hlt, hc⟩ := C_base h hn
    exact C_of h.2.1 (fun i hi => (World.cell?_of_block (a := ⟨g0, o + i, none⟩) (k.block g0 hlt (hb _ rfl) (hg _ rfl))).trans (hc i hi))
  · refine ⟨rfl, h.2.1, fun h0 => absurd h0 hn⟩
end
theorem ws_byte (b g : Nat) (big : Bool) (chunk : Int) (out : List Int) (x : Int) (w : World) (h : WS w b g big chunk out) (hlim : out.length + 1 ≤ 140737488355328) :
    Calls Tryd.prog 59 #[.pointer (some ⟨b, 1, none⟩), .int .u8 x] w (WP .nilIface b g big chunk (out ++ [x]) w) := by
  obtain ⟨v, lr, h⟩ := h.ex
  exact (writeByte_any b 1 g _ _ out x w h hlim).mono fun e w' => WP.of
theorem ws_write (b g : Nat) (big : Bool) (chunk : Int) (out p : List Int) (A : Option Addr) (cp : Nat) (w : World) (h : WS w b g big chunk out) (hC : Kd.C (Kd.int .u8) w A p.length p) (hab : ∀ a, A = some a → a.block ≠ b) (hlim : out.length + p.length ≤ 140737488355328) :
    Calls Tryd.prog 58 #[.pointer (some ⟨b, 1, none⟩), .slice A p.length cp] w (WP (.tuple #[.int .i64 p.length, .nilIface]) b g big chunk (out ++ p) w) := by
  obtain ⟨v, lr, h⟩ := h.ex
  exact (write_any b 1 g _ _ out p A cp w h hC hab hlim).mono fun e w' => WP.of
end Ses
end Go.Proofs.YtdnahdddkagfhaaDoor.X
