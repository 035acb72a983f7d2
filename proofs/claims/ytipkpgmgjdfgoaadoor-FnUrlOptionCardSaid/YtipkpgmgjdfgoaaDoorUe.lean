/- net/url.escape: a text, byte by byte, as a part of a path or as a value of a query. -/
import Derived.Test.YtipkpgmgjdfgoaaDoorTc
import Derived.Test.YtipkpgmgjdfgoaaDoorCf
import Derived.Deep.QuietTactic
import Derived.BigQuiet
import Derived.Lib.BufferWrite
namespace Go.Proofs.YtipkpgmgjdfgoaaDoor.X
open Go.RowKit Go.Proofs.YtipkpgmgjdfgoaaDoorW.PrintWords Go.Proofs.YtipkpgmgjdfgoaaDoorW.PrintMore
attribute [local go_sem] setCell_drewN alloc_drewN
set_option linter.unusedVariables false
set_option linter.unusedSimpArgs false
theorem info5x : (Tryd.prog.info? 5).map (fun i => (i.zero, i.size, i.bytes)) = some (some (.int .u8 0), 1, 1) := by kernel_rfl
namespace Url
/-- The library's table of signs. -/
def tab : List Int := [0, 0, 0, 0, 0, 0, 0, 0, 0, 0, 0, 0, 0, 0, 0, 0, 0, 0, 0, 0, 0, 0, 0, 0, 0, 0, 0, 0, 0, 0, 0, 0, 0, 76, 12, 0, 95, 0, 95, 12, 76, 76, 76, 95, 93, 127, 127, 65, 255, 255, 255, 255, 255, 255, 255, 255, 255, 255, 79, 93, 12, 95, 12, 64, 67, 255, 255, 255, 255, 255, 255, 127, 127, 127, 127, 127, 127, 127, 127, 127, 127, 127, 127, 127, 127, 127, 127, 127, 127, 127, 127, 12, 0, 12, 0, 127, 0, 255, 255, 255, 255, 255, 255, 127, 127, 127, 127, 127, 127, 127, 127, 127, 127, 127, 127, 127, 127, 127, 127, 127, 127, 127, 127, 0, 0, 0, 127, 0, 0, 0, 0, 0, 0, 0, 0, 0, 0, 0, 0, 0, 0, 0, 0, 0, 0, 0, 0, 0, 0, 0, 0, 0, 0, 0, 0, 0, 0, 0, 0, 0, 0, 0, 0, 0, 0, 0, 0, 0, 0, 0, 0, 0, 0, 0, 0, 0, 0, 0, 0, 0, 0, 0, 0, 0, 0, 0, 0, 0, 0, 0, 0, 0, 0, 0, 0, 0, 0, 0, 0, 0, 0, 0, 0, 0, 0, 0, 0, 0, 0, 0, 0, 0, 0, 0, 0, 0, 0, 0, 0, 0, 0, 0, 0, 0, 0, 0, 0, 0, 0, 0, 0, 0, 0, 0, 0, 0, 0, 0, 0, 0, 0, 0, 0, 0, 0, 0, 0, 0, 0, 0, 0, 0, 0, 0, 0, 0]
set_option maxRecDepth 100000 in
theorem tab_len : tab.length = 256 := by decide +kernel
/-- Is a sign escaped, in mode m? -/
def esc (c m : Int) : Bool := Go.bits .and .u8 (tab.getD c.toNat 0) m == 0
def sp (m c : Int) : Bool := esc c m && (c == 32) && (m == 32)
def hx (m c : Int) : Bool := esc c m && !((c == 32) && (m == 32))
def hexd (n : Int) : Int := if n < 10 then 48 + n else 55 + n
def esc1 (m c : Int) : List Int := if c = 32 ∧ m = 32 then [43] else if esc c m = true then [37, hexd (c / 16), hexd (c % 16)] else [c]
def escL (m : Int) (l : List Int) : List Int := l.flatMap (esc1 m)
theorem escL_snoc (m : Int) (l : List Int) (c : Int) : escL m (l ++ [c]) = escL m l ++ esc1 m c := by simp [escL]
theorem esc32 : esc 32 32 = true := by decide +kernel
theorem hx_of (m c : Int) : hx m c = (esc c m && !decide (c = 32 ∧ m = 32)) := by
  unfold hx
  by_cases h1 : c = 32 <;> by_cases h2 : m = 32 <;> simp [h1, h2]
theorem esc1_len (m c : Int) : (esc1 m c).length = 1 + 2 * (if hx m c = true then 1 else 0) := by
  unfold esc1
  rw [hx_of]
  by_cases h : c = 32 ∧ m = 32
  · rw [if_pos h]; simp [h]
  · rw [if_neg h]
    by_cases h2 : esc c m = true
    · rw [if_pos h2]; simp [h, h2]
    · rw [if_neg h2]; simp [h, h2]
theorem escL_len (m : Int) : ∀ l : List Int, (escL m l).length = l.length + 2 * l.countP (hx m)
  | [] => rfl
  | c :: l => by
    have ih := escL_len m l
    have h1 := esc1_len m c
    have e : escL m (c :: l) = esc1 m c ++ escL m l := by simp [escL]
    rw [e, List.length_append, ih, h1, List.length_cons, List.countP_cons]
    split <;> omega
theorem take_snoc (l : List Int) (i : Nat) (h : i < l.length) : l.take (i + 1) = l.take i ++ [l.getD i 0] := by
  rw [List.take_succ_eq_append_getElem h, List.getD_eq_getElem?_getD, List.getElem?_eq_getElem h]; rfl
theorem count_snoc (p : Int → Bool) (l : List Int) (i : Nat) (h : i < l.length) : (l.take (i + 1)).countP p = (l.take i).countP p + if p (l.getD i 0) = true then 1 else 0 := by
  rw [take_snoc l i h, List.countP_append]; simp [List.countP_cons]
theorem count_le (p : Int → Bool) (l : List Int) (i : Nat) : (l.take i).countP p ≤ i := Nat.le_trans List.countP_le_length (List.length_take_le _ _)
theorem escL_take_len (m : Int) (l : List Int) (i : Nat) (h : i < l.length) : (escL m (l.take i)).length + (esc1 m (l.getD i 0)).length ≤ (escL m l).length := by
  have e : l = l.take i ++ (l.getD i 0 :: l.drop (i + 1)) := by
    have h1 := (List.take_append_drop i l).symm
    rw [List.drop_eq_getElem_cons h] at h1
    rw [List.getD_eq_getElem?_getD, List.getElem?_eq_getElem h]
    exact h1
  have h2 : escL m l = escL m (l.take i) ++ (esc1 m (l.getD i 0) ++ escL m (l.drop (i + 1))) := by
    conv => lhs; rw [e]
    simp [escL]
  rw [h2, List.length_append, List.length_append]
  omega
theorem escL_same (m : Int) (l : List Int) (h1 : l.countP (sp m) = 0) (h2 : l.countP (hx m) = 0) : escL m l = l := by
  rw [List.countP_eq_zero] at h1 h2
  unfold escL
  induction l with
  | nil => rfl
  | cons c l ih =>
    have a := h1 c (by simp)
    have b := h2 c (by simp)
    rw [hx_of] at b
    rw [List.flatMap_cons, ih (fun x hx => h1 x (by simp [hx])) (fun x hx => h2 x (by simp [hx]))]
    have : esc1 m c = [c] := by
      unfold esc1
      by_cases h : c = 32 ∧ m = 32
      · obtain ⟨rfl, rfl⟩ := h
        simp [sp, esc32] at a
      · rw [if_neg h]
        by_cases h3 : esc c m = true
        · simp [h3, h] at b
        · rw [if_neg h3]
    rw [this]; rfl
theorem escL_plus (m : Int) (l : List Int) (h2 : l.countP (hx m) = 0) : escL m l = l.map fun c => if c = 32 ∧ m = 32 then 43 else c := by
  rw [List.countP_eq_zero] at h2
  unfold escL
  induction l with
  | nil => rfl
  | cons c l ih =>
    have b := h2 c (by simp)
    rw [hx_of] at b
    rw [List.flatMap_cons, ih (fun x hx => h2 x (by simp [hx])), List.map_cons]
    unfold esc1
    by_cases h : c = 32 ∧ m = 32
    · rw [if_pos h, if_pos h]; rfl
    · rw [if_neg h, if_neg h]
      by_cases h3 : esc c m = true
      · simp [h3, h] at b
      · rw [if_neg h3]; rfl
theorem hexd_get (n : Int) (h0 : 0 ≤ n) (h1 : n < 16) (p : n.toNat < (⟨#[48, 49, 50, 51, 52, 53, 54, 55, 56, 57, 65, 66, 67, 68, 69, 70]⟩ : ByteArray).size) :
    (((⟨#[48, 49, 50, 51, 52, 53, 54, 55, 56, 57, 65, 66, 67, 68, 69, 70]⟩ : ByteArray)[n.toNat]'p).toNat : Int) = hexd n := by
  have : ∀ k : Fin 16, (((⟨#[48, 49, 50, 51, 52, 53, 54, 55, 56, 57, 65, 66, 67, 68, 69, 70]⟩ : ByteArray)[k.val]'k.isLt).toNat : Int) = hexd (k.val : Int) := by decide +kernel
  have h := this ⟨n.toNat, p⟩
  exact h.trans (by show hexd ((n.toNat : Nat) : Int) = hexd n; rw [Int.toNat_of_nonneg h0])
/-- The row has L at its head. -/
def RowTo (L : List Int) (g req : Nat) (w wr : World) : Prop :=
  Below w.heap.size w wr ∧ ∃ (cs : Array Value) (T : TypeId), wr.heap[g]? = some (.cells cs T (0, 0)) ∧ req ≤ cs.size ∧ ∀ k : Nat, k < L.length → cs[k]? = some (.int .u8 (L.getD k 0))
theorem RowTo.push {L : List Int} {g req : Nat} {w wr : World} (h : RowTo L g req w wr) (hj : L.length < req) (hg : w.heap.size ≤ g) (x : Int) : RowTo (L ++ [x]) g req w (wr.setCell ⟨g, L.length, none⟩ (.int .u8 x)) := by
  obtain ⟨hB, cs, T, h1, h2, h3⟩ := h
  refine ⟨hB.setCell hg _, cs.setIfInBounds L.length (.int .u8 x), T, by rw [xb_set h1], by rw [Array.size_setIfInBounds]; exact h2, fun k hk => ?_⟩
  rw [List.length_append, List.length_cons, List.length_nil] at hk
  by_cases e : L.length = k
  · subst e
    rw [Array.getElem?_setIfInBounds_self_of_lt (by omega)]
    simp [List.getD_eq_getElem?_getD]
  · rw [Array.getElem?_setIfInBounds_ne e, h3 k (by omega)]
    simp only [List.getD_eq_getElem?_getD]
    rw [List.getElem?_append_left (by omega)]
theorem RowTo.at {L : List Int} {g req : Nat} {w wr : World} (h : RowTo L g req w wr) (j : Nat) (hj : j < req) : (∃ v, wr.cell? ⟨g, j, none⟩ = some v) ∧ wr.frozen? ⟨g, j, none⟩ = false := by
  obtain ⟨_, cs, T, h1, h2, _⟩ := h
  refine ⟨⟨cs[j]'(by omega), ?_⟩, blk_free h1 j⟩
  rw [xb_cell h1, Array.getElem?_eq_getElem (by omega)]
/-- The bytes that are read, beside the row. -/
def EscAt (m : Int) (l : List Int) (g gb req i : Nat) (w wr : World) : Prop := RowTo (escL m (l.take i)) g req w wr ∧ ∀ k : Nat, k < l.length → wr.cell? ⟨gb, k, none⟩ = some (.int .u8 (l.getD k 0))
theorem EscAt.one {m : Int} {l : List Int} {g gb req i : Nat} {w wr : World} (h : EscAt m l g gb req i w wr) (hi : i < l.length) (hq : (escL m l).length = req) (hg : w.heap.size ≤ g) (hne : ¬ gb = g) {x y : Int} (hx : l.getD i 0 = x) (he : esc1 m x = [y]) :
    EscAt m l g gb req (i + 1) w (wr.setCell ⟨g, (escL m (l.take i)).length, none⟩ (.int .u8 y)) := by
  have hl := escL_take_len m l i hi
  rw [hx, he] at hl
  refine ⟨?_, fun k hk => by rw [set_far hne]; exact h.2 k hk⟩
  rw [take_snoc l i hi, escL_snoc, hx, he]
  exact h.1.push (by simp at hl; omega) hg y
theorem EscAt.three {m : Int} {l : List Int} {g gb req i : Nat} {w wr : World} (h : EscAt m l g gb req i w wr) (hi : i < l.length) (hq : (escL m l).length = req) (hg : w.heap.size ≤ g) (hne : ¬ gb = g) {x a b c : Int} (hx : l.getD i 0 = x) (he : esc1 m x = [a, b, c]) :
    EscAt m l g gb req (i + 1) w (((wr.setCell ⟨g, (escL m (l.take i)).length, none⟩ (.int .u8 a)).setCell ⟨g, (escL m (l.take i)).length + 1, none⟩ (.int .u8 b)).setCell ⟨g, (escL m (l.take i)).length + 2, none⟩ (.int .u8 c)) := by
  have hl := escL_take_len m l i hi
  rw [hx, he] at hl
  simp only [List.length_cons, List.length_nil] at hl
  refine ⟨?_, fun k hk => by rw [set_far hne, set_far hne, set_far hne]; exact h.2 k hk⟩
  rw [take_snoc l i hi, escL_snoc, hx, he]
  have h1 := h.1.push (by omega) hg a
  have h2 := h1.push (by rw [List.length_append, List.length_cons, List.length_nil]; omega) hg b
  have h3 := h2.push (by rw [List.length_append, List.length_append, List.length_cons, List.length_nil, List.length_cons, List.length_nil]; omega) hg c
  simp only [List.length_append, List.length_cons, List.length_nil, List.append_assoc, List.cons_append, List.nil_append] at h3
  exact h3
theorem escL_len_snoc (m : Int) (l : List Int) (i : Nat) (h : i < l.length) : (escL m (l.take (i + 1))).length = (escL m (l.take i)).length + (esc1 m (l.getD i 0)).length := by
  rw [take_snoc l i h, escL_snoc, List.length_append]
theorem esc1_lens (m x : Int) : (esc1 m x).length = 1 ∨ (esc1 m x).length = 3 := by rw [esc1_len]; split <;> simp
def zeros : Array Value := #[.int .u8 0, .int .u8 0, .int .u8 0, .int .u8 0, .int .u8 0, .int .u8 0, .int .u8 0, .int .u8 0, .int .u8 0, .int .u8 0, .int .u8 0, .int .u8 0, .int .u8 0, .int .u8 0, .int .u8 0, .int .u8 0, .int .u8 0, .int .u8 0, .int .u8 0, .int .u8 0, .int .u8 0, .int .u8 0, .int .u8 0, .int .u8 0, .int .u8 0, .int .u8 0, .int .u8 0, .int .u8 0, .int .u8 0, .int .u8 0, .int .u8 0, .int .u8 0, .int .u8 0, .int .u8 0, .int .u8 0, .int .u8 0, .int .u8 0, .int .u8 0, .int .u8 0, .int .u8 0, .int .u8 0, .int .u8 0, .int .u8 0, .int .u8 0, .int .u8 0, .int .u8 0, .int .u8 0, .int .u8 0, .int .u8 0, .int .u8 0, .int .u8 0, .int .u8 0, .int .u8 0, .int .u8 0, .int .u8 0, .int .u8 0, .int .u8 0, .int .u8 0, .int .u8 0, .int .u8 0, .int .u8 0, .int .u8 0, .int .u8 0, .int .u8 0]
theorem zeros_len : zeros.size = 64 := by decide +kernel
theorem start_buf {m : Int} (a0 : ByteArray) (i : Nat) (hn : a0.size = i) (l : List Int) {nh : Nat} {w w2 : World} (hreq : i + 2 * nh ≤ 64) (hB : Below w.heap.size w w2) (hl : l.length = i) (hb : bytesOf a0 = l) :
    EscAt m l w2.heap.size (w2.heap.size + 1) (i + 2 * nh) 0 w (Lib.bytesWorld (w2.alloc (.cells zeros 125)) 5 a0) := by
  have hz : (w2.alloc (.cells zeros 125)).heap.size = w2.heap.size + 1 := World.size_alloc _ _
  have h1 := hB.alloc hB.size (.cells zeros 125)
  refine ⟨⟨bytes_below h1 h1.size 5 a0, zeros, 125, ?_, ?_, fun k hk => absurd hk (by simp [escL])⟩, fun k hk => ?_⟩
  · rw [Lib.bytesWorld_at_old _ _ _ _ (by rw [hz]; omega)]; exact xb_new _ _
  · rw [zeros_len]; exact hreq
  · have := Lib.bytesWorld_cell (w2.alloc (.cells zeros 125)) 5 a0 k (by omega)
    rw [hz] at this
    rw [this, ← hb]
    have h' : k < a0.data.toList.length := by rw [data_length]; omega
    simp [bytesOf, List.getD_eq_getElem?_getD, List.getElem?_eq_getElem h']
/-- The row has the text, its blanks up to i turned. -/
def PlusTo (l : List Int) (g i : Nat) (w wr : World) : Prop :=
  Below w.heap.size w wr ∧ ∃ (cs : Array Value) (T : TypeId), wr.heap[g]? = some (.cells cs T (0, 0)) ∧ l.length ≤ cs.size ∧ ∀ k : Nat, k < l.length → cs[k]? = some (.int .u8 (if k < i ∧ l.getD k 0 = 32 then 43 else l.getD k 0))
theorem PlusTo.skip {l : List Int} {g i : Nat} {w wr : World} (h : PlusTo l g i w wr) (hx : ¬ l.getD i 0 = 32) : PlusTo l g (i + 1) w wr := by
  obtain ⟨hB, cs, T, h1, h2, h3⟩ := h
  refine ⟨hB, cs, T, h1, h2, fun k hk => ?_⟩
  rw [h3 k hk]
  by_cases e : k = i
  · subst e; rw [if_neg (fun q => hx q.2), if_neg (fun q => hx q.2)]
  · by_cases a : k < i
    · by_cases b : l.getD k 0 = 32
      · rw [if_pos ⟨a, b⟩, if_pos ⟨by omega, b⟩]
      · rw [if_neg (fun q => b q.2), if_neg (fun q => b q.2)]
    · rw [if_neg (fun q => a q.1), if_neg (fun q => by omega)]
theorem PlusTo.set {l : List Int} {g i : Nat} {w wr : World} (h : PlusTo l g i w wr) (hx : l.getD i 0 = 32) (hi : i < l.length) (hg : w.heap.size ≤ g) : PlusTo l g (i + 1) w (wr.setCell ⟨g, i, none⟩ (.int .u8 43)) := by
  obtain ⟨hB, cs, T, h1, h2, h3⟩ := h
  refine ⟨hB.setCell hg _, cs.setIfInBounds i (.int .u8 43), T, by rw [xb_set h1], by rw [Array.size_setIfInBounds]; exact h2, fun k hk => ?_⟩
  by_cases e : i = k
  · subst e; rw [Array.getElem?_setIfInBounds_self_of_lt (by omega), if_pos ⟨by omega, hx⟩]
  · rw [Array.getElem?_setIfInBounds_ne e, h3 k hk]
    by_cases a : k < i
    · by_cases b : l.getD k 0 = 32
      · rw [if_pos ⟨a, b⟩, if_pos ⟨by omega, b⟩]
      · rw [if_neg (fun q => b q.2), if_neg (fun q => b q.2)]
    · rw [if_neg (fun q => a q.1), if_neg (fun q => by omega)]
theorem PlusTo.at {l : List Int} {g i : Nat} {w wr : World} (h : PlusTo l g i w wr) (hi : i < l.length) : (∃ v, wr.cell? ⟨g, i, none⟩ = some v) ∧ wr.frozen? ⟨g, i, none⟩ = false := by
  obtain ⟨_, cs, T, h1, h2, h3⟩ := h
  exact ⟨⟨_, (xb_cell h1 i).trans (h3 i hi)⟩, blk_free h1 i⟩
theorem PlusTo.whole {l : List Int} {g : Nat} {w wr : World} (h : PlusTo l g l.length w wr) (hm : l.length ≤ 9223372036854775807) : Kd.C (Kd.int .u8) wr (some ⟨g, 0, none⟩) l.length (l.map fun c => if c = 32 ∧ True then 43 else c) := by
  obtain ⟨_, cs, T, h1, h2, h3⟩ := h
  have := C_of (k := .u8) (w := wr) (l := l.map fun c => if c = 32 ∧ True then 43 else c) (g := g) (o := 0) (by rw [List.length_map]; exact hm) (fun j hj => by
    rw [List.length_map] at hj
    rw [Nat.zero_add, xb_cell h1, h3 j hj]
    congr 2
    simp only [List.getD_eq_getElem?_getD, List.getElem?_map, List.getElem?_eq_getElem hj, Option.map_some, Option.getD_some, hj, true_and, and_true])
  rw [List.length_map] at this
  exact this
theorem sp_mode (m : Int) (l : List Int) (h : ¬ l.countP (sp m) = 0) : m = 32 := by
  rw [List.countP_eq_zero] at h
  apply Classical.byContradiction
  intro hm
  refine h fun a _ => ?_
  have : (m == 32) = false := beq_eq_false_iff_ne.2 hm
  simp [sp, this]
theorem get_str (a0 : ByteArray) (i : Nat) (hn : a0.size = i) (l : List Int) (hby : bytesOf a0 = l) (q : Nat) (hq : q < a0.size) : ((a0[q]'hq).toNat : Int) = l.getD q 0 := by
  have h' : q < a0.data.toList.length := by rw [data_length]; omega
  rw [← hby]
  simp [bytesOf, List.getD_eq_getElem?_getD, List.getElem?_eq_getElem h']
  rfl
theorem copied {a0 : ByteArray} {i : Nat} (hn : a0.size = i) {l : List Int} {w W : World} {g cap : Nat} {cur : Array Value} {T : TypeId} (hB : Below w.heap.size w W) (hb : W.heap[g]? = some (.cells cur T (0, 0))) (hcur : i ≤ cur.size) (hg : w.heap.size ≤ g) (hl : l.length = i) (hby : bytesOf a0 = l) :
    ∃ w7, (Builtin.copy_ #[43, 9] 3 #[.slice (some ⟨g, 0, none⟩) i cap, .string a0]).run Tryd.prog W = .ok (.int .i64 (i : Int)) w7 ∧ Hid (PlusTo l g 0 w w7) ∧ Hid (w.heap.size ≤ g) := by
  have hr := Lib.run_copy_row_string (P := Tryd.prog) W 43 9 3 5 g 0 i cap a0 cur T Tryd.underlying43 (by kernel_rfl) hb (by omega) (by omega)
  rw [hn] at hr
  refine ⟨_, hr, Lib.hid ⟨?_, ?_⟩, Lib.hid hg⟩
  · exact hB.trans ⟨rfl, rfl, rfl, by simp [World.setRow], fun k hk => by
      simp only [World.setRow, Array.getElem?_modify]
      rw [if_neg (by omega)]⟩
  · refine ⟨_, T, setRow_heap W g cur _ T (0, 0) hb, ?_, fun k hk => ?_⟩
    · have hl2 : (Lib.byteCells a0.data.toList).length = i := by rw [Lib.byteCells_length, data_length, hn]
      simp; omega
    · have hl2 : (Lib.byteCells a0.data.toList).length = i := by rw [Lib.byteCells_length, data_length, hn]
      have h' : k < a0.data.toList.length := by rw [data_length]; omega
      rw [if_neg (fun q => by omega), ← hby]
      simp only [List.take_zero, List.nil_append, Nat.zero_add, List.getElem?_toArray]
      rw [List.getElem?_append_left (by omega)]
      simp [Lib.byteCells, bytesOf, List.getD_eq_getElem?_getD, List.getElem?_eq_getElem h']
theorem copy_buf (a0 : ByteArray) (i : Nat) (hn : a0.size = i) (l : List Int) {w w2 : World} (hi : i ≤ 64) (hB : Below w.heap.size w w2) (hl : l.length = i) (hby : bytesOf a0 = l) :
    ∃ w7, (Builtin.copy_ #[43, 9] 3 #[.slice (some ⟨w2.heap.size, 0, none⟩) i 64, .string a0]).run Tryd.prog (w2.alloc (.cells zeros 125)) = .ok (.int .i64 (i : Int)) w7 ∧ Hid (PlusTo l w2.heap.size 0 w w7) ∧ Hid (w.heap.size ≤ w2.heap.size) :=
  copied hn (hB.alloc hB.size _) (xb_new _ _) (by rw [zeros_len]; exact hi) hB.size hl hby
theorem copy_make (a0 : ByteArray) (i : Nat) (hn : a0.size = i) (l : List Int) {w w2 w6 : World} {g cap : Nat} {cur : Array Value} {o : Obj} (hB : Below w.heap.size w w2) (hB1 : Below (w2.alloc o).heap.size (w2.alloc o) w6) (hb : w6.heap[g]? = some (.cells cur 5 (0, 0))) (hs : cur.size = cap) (hcap : i ≤ cap) (hbase : (w2.alloc o).heap.size ≤ g) (hl : l.length = i) (hby : bytesOf a0 = l) :
    ∃ w7, (Builtin.copy_ #[43, 9] 3 #[.slice (some ⟨g, 0, none⟩) i cap, .string a0]).run Tryd.prog w6 = .ok (.int .i64 (i : Int)) w7 ∧ Hid (PlusTo l g 0 w w7) ∧ Hid (w.heap.size ≤ g) := by
  have h1 := hB.alloc hB.size o
  rw [World.size_alloc] at hbase
  have := hB.size
  exact copied hn (h1.trans (hB1.mono h1.size)) hb (by omega) (by omega) hl hby
theorem start_make {m : Int} (a0 : ByteArray) (i : Nat) (hn : a0.size = i) (l : List Int) {nh : Nat} {w w2 w6 : World} {g cap : Nat} {cur : Array Value} {o : Obj} (hB : Below w.heap.size w w2) (hB1 : Below (w2.alloc o).heap.size (w2.alloc o) w6) (hb : w6.heap[g]? = some (.cells cur 5 (0, 0))) (hs : cur.size = cap) (hcap : i + 2 * nh ≤ cap) (hbase : (w2.alloc o).heap.size ≤ g) (hl : l.length = i) (hby : bytesOf a0 = l) :
    Hid (w.heap.size ≤ g) ∧ Hid (¬ w6.heap.size = g) ∧ Hid (EscAt m l g w6.heap.size (i + 2 * nh) 0 w (Lib.bytesWorld w6 5 a0)) ∧ True := by
  have h1 := hB.alloc hB.size o
  have hlt := xb_lt hb
  rw [World.size_alloc] at hbase
  have := hB.size
  have h2 := h1.trans (hB1.mono h1.size)
  refine ⟨Lib.hid (by omega), Lib.hid (by omega), Lib.hid ⟨⟨bytes_below h2 h2.size 5 a0, cur, 5, ?_, by omega, fun k hk => absurd hk (by simp [escL])⟩, fun k hk => ?_⟩, trivial⟩
  · rw [Lib.bytesWorld_at_old _ _ _ _ hlt]; exact hb
  · have := Lib.bytesWorld_cell w6 5 a0 k (by omega)
    rw [this, ← hby]
    have h' : k < a0.data.toList.length := by rw [data_length]; omega
    simp [bytesOf, List.getD_eq_getElem?_getD, List.getElem?_eq_getElem h']
theorem row_open {w : World} {base : Nat} {v : Value} {l : List Int} (h : Kd.R (Kd.int .u8) 5 w base (fun _ => True) v l) (hl : 0 < l.length) :
    ∃ g cap cur, v = .slice (some ⟨g, 0, none⟩) l.length cap ∧ w.heap[g]? = some (.cells cur 5 (0, 0)) ∧ cur.size = cap ∧ cap ≤ maxLen ∧ l.length ≤ cap ∧ cur.toList.take l.length = nums .u8 l ∧ base ≤ g := by
  have ho := Kd.own_of_R h
  rcases ho.2 with ⟨_, h0⟩ | ⟨g, cap, cur, rfl, hb, hh, h1, h2, h3, h4⟩
  · omega
  · exact ⟨g, cap, cur, rfl, hh, by omega, h2, h1, by rw [Nat.mul_one] at h4; exact h4, hb⟩
theorem RowTo.whole {L : List Int} {g : Nat} {w wr : World} (h : RowTo L g L.length w wr) (hm : L.length ≤ 9223372036854775807) : Kd.C (Kd.int .u8) wr (some ⟨g, 0, none⟩) L.length L := by
  obtain ⟨_, cs, T, h1, h2, h3⟩ := h
  exact C_of hm (fun j hj => by rw [Nat.zero_add, xb_cell h1]; exact h3 j hj)
end Url
/-- The powers of ten and the table of signs are what the library's text lays. -/
def TabU (w : World) : Prop := Tab w ∧ Lib.TabIs Tryd.prog w "net/url.table" .u8 Url.tab
theorem tabU_all {w : World} (h : TabU w) : ∀ W, Below w.heap.size w W → TabU W := fun W hb => ⟨(Lib.tabBelow_of_tabIs h.1) W hb, (Lib.tabBelow_of_tabIs h.2) W hb⟩
theorem url_shouldEscape.calls (c m : Int) (b : Bool) (w : World) (h0 : 0 ≤ c) (h1 : c ≤ 255) (hb : Url.esc c m = b) (hT : TabU w) :
    Calls Tryd.prog 95 #[.int .u8 c, .int .u8 m] w fun e w' => e = .returned (.bool b) ∧ w = w' := by
  have hc := hT.2.cell (g := 7) (by kernel_rfl) c.toNat (by rw [Url.tab_len]; omega)
  have hb' : (Go.bits .and .u8 (Url.tab.getD c.toNat 0) m == 0) = b := hb
  generalize Url.tab.getD c.toNat 0 = t at *
  clear hT hb
  go_enter Tryd.func95, Tryd.ntmps95
  go_wp2
  go_ret
  exact ⟨by rw [← hb']; rfl, rfl⟩
def url_escape.f (a0 : ByteArray) (m : Int) : Option ByteArray := if a0.size ≤ 1099511627776 ∧ (m = 2 ∨ m = 32) then some (strOfNums (Url.escL m (bytesOf a0))) else none
theorem strOfNums_bytesOf (s : ByteArray) : strOfNums (bytesOf s) = s := by
  unfold strOfNums bytesOf
  apply ByteArray.ext
  simp [Function.comp_def]
set_option maxHeartbeats 8000000 in
set_option maxRecDepth 100000 in
theorem url_escape.calls (a0 : ByteArray) (m : Int) (r : ByteArray) (w : World) (h : url_escape.f a0 m = some r) (htab : TabU w) :
    Calls Tryd.prog 78 #[.string a0, .int .u8 m] w fun e w' => e = .returned (.string r) ∧ Below w.heap.size w w' := by
  unfold url_escape.f at h
  split at h
  · rename_i hsm
    obtain ⟨hsz, hm⟩ := hsm
    have hr := Lib.hid (Option.some.inj h)
    clear h
    have hm0 : 0 ≤ m ∧ m ≤ 255 := by omega
    have HM := Lib.hid hm
    have HT := Lib.hid (tabU_all htab)
    obtain ⟨w2, c, cs, hcv, hsc, hB2, hblk, hcell⟩ := conv_row (P := Tryd.prog) w 9 43 Tryd.underlying9 Tryd.underlying43 Tryd.underlying5 a0
    have hlen := bytesOf_length a0
    have hbyt := byt_bytesOf a0
    have hself := strOfNums_bytesOf a0
    obtain ⟨l, hl0⟩ : ∃ l, l = bytesOf a0 := ⟨_, rfl⟩
    rw [← hl0] at hr hlen hbyt hself hcell
    have HBy := Lib.hid hl0.symm
    clear hl0
    generalize hns : a0.size = n at *
    have HB := Lib.hid hB2
    have HC := Lib.hid (fun i hi => (xb_cell hblk i).trans (hcell i hi))
    have HL := Lib.hid hlen
    have HY := Lib.hid hbyt
    have HF := Lib.hid hself
    have HN := Lib.hid hns
    clear hB2 hblk hcell hbyt hlen hself hm htab hns
    go_enter Tryd.func78, Tryd.ntmps78
    go_wp2
    go_loop [5, 6, 19] (fun v5 v6 v19 => ∃ i : Nat, i ≤ n ∧ v19 = .int .i64 i ∧ v5 = .int .i64 ((l.take i).countP (Url.sp m) : Nat) ∧ v6 = .int .i64 ((l.take i).countP (Url.hx m) : Nat)) (fun _ _ v19 => n - (intOf v19).toNat)
    case atStart => exact ⟨0, Nat.zero_le _, rfl, rfl, rfl⟩
    case round =>
      obtain ⟨i, hi, rfl, rfl, rfl⟩ := hrel
      have k1 := Url.count_le (Url.sp m) l i
      have k2 := Url.count_le (Url.hx m) l i
      by_cases hlt : i < n
      · have x0 := HC.out i hlt
        have hx := HY.out.get i
        have HS1 := Lib.hid (Url.count_snoc (Url.sp m) l i (by rw [HL.out]; exact hlt))
        have HS2 := Lib.hid (Url.count_snoc (Url.hx m) l i (by rw [HL.out]; exact hlt))
        generalize (l.take i).countP (Url.sp m) = ns at *
        generalize (l.take i).countP (Url.hx m) = nh at *
        have HW := Lib.hid (fun b hb => url_shouldEscape.calls (l.getD i 0) m b w2 hx.1 hx.2 hb (HT.out _ HB.out))
        generalize l.getD i 0 = x at *
        by_cases he : Url.esc x m = true
        · have HW' := Lib.hid (HW.out true he)
          by_cases h32 : x = 32
          · have t32 : (x == 32) = true := beq_iff_eq.2 h32
            by_cases hm32 : m = 32
            · have u32 : (m == 32) = true := beq_iff_eq.2 hm32
              have HP := Lib.hid (show Url.sp m x = true by unfold Url.sp; rw [he, t32, u32]; rfl)
              have HQ := Lib.hid (show Url.hx m x = false by unfold Url.hx; rw [he, t32, u32]; rfl)
              clear h32 hm32 he
              go_wp2_with (go_at_call 95; (with_reducible refine HW'.out.mono ?_); rintro e w5 ⟨rfl, rfl⟩)
              go_round
              case rel => exact ⟨i + 1, by omega, by go_num, by rw [HS1.out]; simp only [HP.out, if_true, if_false, Bool.false_eq_true]; first | rfl | go_num, by rw [HS2.out]; simp only [HQ.out, if_true, if_false, Bool.false_eq_true]; first | rfl | go_num⟩
              case measure => simp [intOf]; omega
            · have u32 : (m == 32) = false := beq_eq_false_iff_ne.2 hm32
              have HP := Lib.hid (show Url.sp m x = false by unfold Url.sp; rw [he, t32, u32]; rfl)
              have HQ := Lib.hid (show Url.hx m x = true by unfold Url.hx; rw [he, t32, u32]; rfl)
              clear h32 hm32 he
              go_wp2_with (go_at_call 95; (with_reducible refine HW'.out.mono ?_); rintro e w5 ⟨rfl, rfl⟩)
              go_round
              case rel => exact ⟨i + 1, by omega, by go_num, by rw [HS1.out]; simp only [HP.out, if_true, if_false, Bool.false_eq_true]; first | rfl | go_num, by rw [HS2.out]; simp only [HQ.out, if_true, if_false, Bool.false_eq_true]; first | rfl | go_num⟩
              case measure => simp [intOf]; omega
          · have t32 : (x == 32) = false := beq_eq_false_iff_ne.2 h32
            have HP := Lib.hid (show Url.sp m x = false by unfold Url.sp; rw [he, t32]; rfl)
            have HQ := Lib.hid (show Url.hx m x = true by unfold Url.hx; rw [he, t32]; rfl)
            clear h32 he
            go_wp2_with (go_at_call 95; (with_reducible refine HW'.out.mono ?_); rintro e w5 ⟨rfl, rfl⟩)
            go_round
            case rel => exact ⟨i + 1, by omega, by go_num, by rw [HS1.out]; simp only [HP.out, if_true, if_false, Bool.false_eq_true]; first | rfl | go_num, by rw [HS2.out]; simp only [HQ.out, if_true, if_false, Bool.false_eq_true]; first | rfl | go_num⟩
            case measure => simp [intOf]; omega
        · have he' : Url.esc x m = false := by simpa using he
          have HW' := Lib.hid (HW.out false he')
          have HP := Lib.hid (show Url.sp m x = false by unfold Url.sp; rw [he']; rfl)
          have HQ := Lib.hid (show Url.hx m x = false by unfold Url.hx; rw [he']; rfl)
          clear he he'
          go_wp2_with (go_at_call 95; (with_reducible refine HW'.out.mono ?_); rintro e w5 ⟨rfl, rfl⟩)
          go_round
          case rel => exact ⟨i + 1, by omega, by go_num, by rw [HS1.out]; simp only [HP.out, if_true, if_false, Bool.false_eq_true]; first | rfl | go_num, by rw [HS2.out]; simp only [HQ.out, if_true, if_false, Bool.false_eq_true]; first | rfl | go_num⟩
          case measure => simp [intOf]; omega
      · obtain rfl : i = n := by omega
        rw [show l.take i = l from List.take_of_length_le (by rw [HL.out]; exact Nat.le_refl _)] at *
        have hel := Lib.hid (Url.escL_len m l)
        have HE := Lib.hid (Url.escL_same m l)
        have HPl := Lib.hid (Url.escL_plus m l)
        clear hcv
        by_cases h1 : l.countP (Url.hx m) = 0
        · by_cases h2 : l.countP (Url.sp m) = 0
          · have hrr : r = a0 := by rw [← hr.out, HE.out h2 h1, HF.out]
            subst hrr
            rw [h1, h2]
            go_wp2
            go_ret
            exact ⟨rfl, HB.out⟩
          · have h0 : ((l.countP (Url.hx m) : Nat) : Int) = 0 := by omega
            have t2 : (((l.countP (Url.hx m) : Nat) : Int) == 0) = true := beq_iff_eq.2 h0
            have t1 : (((l.countP (Url.sp m) : Nat) : Int) == 0) = false := beq_eq_false_iff_ne.2 (by omega)
            have hm32 := Lib.hid (Url.sp_mode m l h2)
            have hns := HN.out
            have HP2 := Lib.hid (HPl.out h1)
            have hk0 : l.countP (Url.hx m) ≤ 0 := by omega
            clear h0 h1 h2
            generalize l.countP (Url.hx m) = nh at *
            generalize l.countP (Url.sp m) = ns at *
            have HGt := Lib.hid (Url.get_str a0 i HN.out l HBy.out)
            by_cases hreq : i + 2 * nh ≤ 64
            · have hal : Tryd.prog.arrayLen 125 = 64 := by kernel_rfl
              have hsl : ∀ W, (Instr.sliceAt 125 (.pointer (some ⟨w2.heap.size, 0, none⟩)) none (some (.int .i64 ((i : Int) + 2 * (nh : Int)))) none).run Tryd.prog W = .ok (.slice (some ⟨w2.heap.size, 0, none⟩) i 64) W := fun W => by
                rw [run_sliceAt_array_h W 125 ⟨w2.heap.size, 0, none⟩ (by simp [Program.arrayLen, Program.elem, Tryd.underlying125]) .i64 ((i : Int) + 2 * (nh : Int)) (by omega) (by rw [hal]; omega), hal]
                go_simp
                omega
              clear hal
              obtain ⟨w7, hcp, HR, HG⟩ := Url.copy_buf a0 i HN.out l (by omega) HB.out HL.out HBy.out
              unfold Url.zeros at hcp
              go_wp2
              go_loopw [12] (fun v12 wr => ∃ q : Nat, q ≤ i ∧ v12 = .int .i64 q ∧ Hid (Url.PlusTo l w2.heap.size q w wr)) (fun v12 _ => i - (intOf v12).toNat)
              case atStart => exact ⟨0, Nat.zero_le _, rfl, HR⟩
              case round =>
                obtain ⟨q, hq, rfl, HA⟩ := hrel
                by_cases hlt2 : q < i
                · obtain ⟨⟨v0, c0⟩, f0⟩ := HA.out.at (by rw [HL.out]; exact hlt2)
                  have hqs : q < a0.size := by omega
                  have hgt := HGt.out q hqs
                  by_cases h32 : l.getD q 0 = 32
                  · have HO' := Lib.hid (HA.out.set h32 (by rw [HL.out]; exact hlt2) HG.out)
                    rw [h32] at hgt
                    clear h32
                    go_wp2
                    go_roundw
                    case rel => exact ⟨q + 1, by omega, by go_num, HO'⟩
                    case measure => simp [intOf]; omega
                  · have HO' := Lib.hid (HA.out.skip h32)
                    have hgt2 : ((((a0[q]'hqs).toNat : Nat) : Int) == 32) = false := beq_eq_false_iff_ne.2 (by rw [hgt]; exact h32)
                    clear h32 hgt
                    go_wp2
                    go_roundw
                    case rel => exact ⟨q + 1, by omega, by go_num, HO'⟩
                    case measure => simp [intOf]; omega
                · obtain rfl : q = i := by omega
                  have HA2 := HA.out
                  rw [← HL.out] at HA2
                  have hC := HA2.whole (by rw [HL.out]; omega)
                  have e : (l.map fun c => if c = 32 ∧ True then 43 else c) = Url.escL m l := by rw [HP2.out, hm32.out]; simp
                  rw [e] at hC
                  have hlE : (Url.escL m l).length = l.length := by rw [HP2.out, List.length_map]
                  rw [← hlE] at hC
                  have hst := Kd.C_string (P := Tryd.prog) (A := some ⟨w2.heap.size, 0, none⟩) (c := 64) Tryd.underlying43 Tryd.underlying5 Tryd.underlying9 hC
                  rw [hr.out, hlE, HL.out] at hst
                  have HB9 := Lib.hid HA2.1
                  clear hC HA2 e hlE
                  go_wp2
                  go_ret
                  exact ⟨rfl, HB9.out⟩
            · have hz : ((i : Int) + 2 * (nh : Int)).toNat = i := by omega
              go_wp2_with (first | (refine Kd.R_make (Kd.int .u8) _ 5 rfl (N := 54) rfl 43 _ _ rfl _ rfl rfl Tryd.underlying43 (.int .u8 0) 1 info5x rfl (by decide) (by omega) 0 (ok := fun _ => True) (okp := fun _ => True) rfl (fun _ hk => hk) trivial (by omega) (by omega) (Below.refl _ _) (Nat.le_refl _) ?_; intro v1 w6 hR1 hB1 hg_ hnew_; clear hg_ hnew_; rw [hz] at hR1; obtain ⟨g, cap, cur, rfl, hb, hs, hm, hcap, htk, hbase⟩ := Url.row_open hR1 (by rw [List.length_replicate]; omega); rw [List.length_replicate] at hcap htk ⊢; obtain ⟨w7, hcp, HR, HG⟩ := Url.copy_make (cap := cap) a0 i HN.out l HB.out hB1 hb hs hcap hbase HL.out HBy.out; clear hR1 hb hs hm htk hbase hB1 hcap hz))
              go_loopw [12] (fun v12 wr => ∃ q : Nat, q ≤ i ∧ v12 = .int .i64 q ∧ Hid (Url.PlusTo l g q w wr)) (fun v12 _ => i - (intOf v12).toNat)
              case atStart => exact ⟨0, Nat.zero_le _, rfl, HR⟩
              case round =>
                obtain ⟨q, hq, rfl, HA⟩ := hrel
                by_cases hlt2 : q < i
                · obtain ⟨⟨v0, c0⟩, f0⟩ := HA.out.at (by rw [HL.out]; exact hlt2)
                  have hqs : q < a0.size := by omega
                  have hgt := HGt.out q hqs
                  by_cases h32 : l.getD q 0 = 32
                  · have HO' := Lib.hid (HA.out.set h32 (by rw [HL.out]; exact hlt2) HG.out)
                    rw [h32] at hgt
                    clear h32
                    go_wp2
                    go_roundw
                    case rel => exact ⟨q + 1, by omega, by go_num, HO'⟩
                    case measure => simp [intOf]; omega
                  · have HO' := Lib.hid (HA.out.skip h32)
                    have hgt2 : ((((a0[q]'hqs).toNat : Nat) : Int) == 32) = false := beq_eq_false_iff_ne.2 (by rw [hgt]; exact h32)
                    clear h32 hgt
                    go_wp2
                    go_roundw
                    case rel => exact ⟨q + 1, by omega, by go_num, HO'⟩
                    case measure => simp [intOf]; omega
                · obtain rfl : q = i := by omega
                  have HA2 := HA.out
                  rw [← HL.out] at HA2
                  have hC := HA2.whole (by rw [HL.out]; omega)
                  have e : (l.map fun c => if c = 32 ∧ True then 43 else c) = Url.escL m l := by rw [HP2.out, hm32.out]; simp
                  rw [e] at hC
                  have hlE : (Url.escL m l).length = l.length := by rw [HP2.out, List.length_map]
                  rw [← hlE] at hC
                  have hst := Kd.C_string (P := Tryd.prog) (A := some ⟨g, 0, none⟩) (c := cap) Tryd.underlying43 Tryd.underlying5 Tryd.underlying9 hC
                  rw [hr.out, hlE, HL.out] at hst
                  have HB9 := Lib.hid HA2.1
                  clear hC HA2 e hlE
                  go_wp2
                  go_ret
                  exact ⟨rfl, HB9.out⟩
        · have hkb : ∀ W, (convert 9 43 (.string a0)).run Tryd.prog W = .ok (.slice (some ⟨W.heap.size, 0, none⟩) i (grownCap W i 0 5)) (Lib.bytesWorld W 5 a0) := fun W => by
            have := print_bytes (P := Tryd.prog) 9 43 5 Tryd.underlying9 Tryd.underlying43 Tryd.underlying5 a0 W
            rw [HN.out] at this; exact this
          have t2 : (((l.countP (Url.hx m) : Nat) : Int) == 0) = false := beq_eq_false_iff_ne.2 (by omega)
          have H1 := Lib.hid h1
          clear h1
          have hns := HN.out
          generalize l.countP (Url.hx m) = nh at *
          generalize l.countP (Url.sp m) = ns at *
          rcases (show ((ns : Int) == 0) = true ∨ ((ns : Int) == 0) = false by cases ((ns : Int) == 0) <;> simp) with t1 | t1
          all_goals
            by_cases hreq : i + 2 * nh ≤ 64
            · have hal : Tryd.prog.arrayLen 125 = 64 := by kernel_rfl
              have hsl : ∀ W, (Instr.sliceAt 125 (.pointer (some ⟨w2.heap.size, 0, none⟩)) none (some (.int .i64 ((i : Int) + 2 * (nh : Int)))) none).run Tryd.prog W = .ok (.slice (some ⟨w2.heap.size, 0, none⟩) (i + 2 * nh) 64) W := fun W => by
                rw [run_sliceAt_array_h W 125 ⟨w2.heap.size, 0, none⟩ (by simp [Program.arrayLen, Program.elem, Tryd.underlying125]) .i64 ((i : Int) + 2 * (nh : Int)) (by omega) (by rw [hal]; omega), hal]
                go_simp
                omega
              clear hal
              have HG : Hid (w.heap.size ≤ w2.heap.size) := Lib.hid HB.out.size
              have HNE : Hid (¬ w2.heap.size + 1 = w2.heap.size) := Lib.hid (by omega)
              have HQ : Hid ((Url.escL m l).length = i + 2 * nh) := Lib.hid (by rw [hel.out, HL.out])
              have HSTART : Hid (Url.EscAt m l w2.heap.size (w2.heap.size + 1) (i + 2 * nh) 0 w (Lib.bytesWorld (w2.alloc (.cells Url.zeros 125)) 5 a0)) := Lib.hid (Url.start_buf a0 i HN.out l hreq HB.out HL.out HBy.out)
              go_wp2
              go_loopw [13, 78] (fun v13 v78 wr => ∃ q : Nat, q ≤ i ∧ v78 = .int .i64 q ∧ v13 = .int .i64 ((Url.escL m (l.take q)).length : Nat) ∧ Hid (Url.EscAt m l w2.heap.size (w2.heap.size + 1) (i + 2 * nh) q w wr)) (fun _ v78 _ => i - (intOf v78).toNat)
              case atStart => exact ⟨0, Nat.zero_le _, rfl, rfl, HSTART⟩
              case round =>
                obtain ⟨q, hq, rfl, rfl, HA⟩ := hrel
                by_cases hlt2 : q < i
                · have x0 := HA.out.2 q (by rw [HL.out]; exact hlt2)
                  have hx := HY.out.get q
                  have hl := Url.escL_take_len m l q (by rw [HL.out]; exact hlt2)
                  rw [HQ.out] at hl
                  obtain ⟨⟨v0, c0⟩, f0⟩ := HA.out.1.at (Url.escL m (l.take q)).length (by have := Url.esc1_lens m (l.getD q 0); omega)
                  have HB2 := Lib.hid HA.out.1.1
                  have HO := Lib.hid (fun x y h1 h2 => HA.out.one (i := q) (by rw [HL.out]; exact hlt2) HQ.out HG.out HNE.out (x := x) (y := y) h1 h2)
                  have HTh := Lib.hid (fun x a b c h1 h2 => HA.out.three (i := q) (by rw [HL.out]; exact hlt2) HQ.out HG.out HNE.out (x := x) (a := a) (b := b) (c := c) h1 h2)
                  have HAt := Lib.hid HA.out.1.at
                  have HLen := Lib.hid (Url.escL_len_snoc m l q (by rw [HL.out]; exact hlt2))
                  generalize (Url.escL m (l.take q)).length = j at *
                  have HW := Lib.hid (fun b hb => url_shouldEscape.calls (l.getD q 0) m b wr hx.1 hx.2 hb (HT.out _ HB2.out))
                  obtain ⟨x, hxx⟩ : ∃ x, x = l.getD q 0 := ⟨_, rfl⟩
                  rw [← hxx] at x0 hl HW hx HLen
                  have HX := Lib.hid hxx.symm
                  clear hxx
                  by_cases h32 : x = 32 ∧ m = 32
                  · have e1 : Url.esc1 m x = [43] := by unfold Url.esc1; rw [if_pos h32]
                    rw [e1] at hl
                    simp only [List.length_cons, List.length_nil] at hl
                    have t32 : (x == 32) = true := beq_iff_eq.2 h32.1
                    have u32 : (m == 32) = true := beq_iff_eq.2 h32.2
                    have HO' := Lib.hid (HO.out x 43 HX.out e1)
                    have E1 := Lib.hid e1
                    clear h32 e1
                    go_wp2
                    go_roundw
                    case rel => exact ⟨q + 1, by omega, by go_num, by rw [HLen.out, E1.out]; go_num, HO'⟩
                    case measure => simp [intOf]; omega
                  · have k32 : ((x == 32) = true ∧ (m == 32) = false) ∨ (x == 32) = false := by
                      by_cases a : x = 32
                      · exact .inl ⟨beq_iff_eq.2 a, beq_eq_false_iff_ne.2 (fun b => h32 ⟨a, b⟩)⟩
                      · exact .inr (beq_eq_false_iff_ne.2 a)
                    by_cases he : Url.esc x m = true
                    · have e1 : Url.esc1 m x = [37, Url.hexd (x / 16), Url.hexd (x % 16)] := by unfold Url.esc1; rw [if_neg h32, if_pos he]
                      rw [e1] at hl
                      simp only [List.length_cons, List.length_nil] at hl
                      obtain ⟨⟨v1, c1⟩, f1⟩ := HAt.out (j + 1) (by omega)
                      obtain ⟨⟨v2, c2⟩, f2⟩ := HAt.out (j + 2) (by omega)
                      have HO' := Lib.hid (HTh.out x _ _ _ HX.out e1)
                      have E1 := Lib.hid e1
                      have HW' := Lib.hid (HW.out true he)
                      clear h32 e1 he
                      rcases k32 with ⟨t32, u32⟩ | t32
                      · go_wp2_with (go_at_call 95; (with_reducible refine HW'.out.mono ?_); rintro e w5 ⟨rfl, rfl⟩)
                        go_roundw
                        case rel => exact ⟨q + 1, by omega, by go_num, by rw [HLen.out, E1.out]; go_num, by rw [Url.hexd_get (x / 16) (by omega) (by omega), Url.hexd_get (x % 16) (by omega) (by omega)]; exact HO'⟩
                        case measure => simp [intOf]; omega
                      · go_wp2_with (go_at_call 95; (with_reducible refine HW'.out.mono ?_); rintro e w5 ⟨rfl, rfl⟩)
                        go_roundw
                        case rel => exact ⟨q + 1, by omega, by go_num, by rw [HLen.out, E1.out]; go_num, by rw [Url.hexd_get (x / 16) (by omega) (by omega), Url.hexd_get (x % 16) (by omega) (by omega)]; exact HO'⟩
                        case measure => simp [intOf]; omega
                    · have he' : Url.esc x m = false := by simpa using he
                      have e1 : Url.esc1 m x = [x] := by unfold Url.esc1; rw [if_neg h32, if_neg he]
                      rw [e1] at hl
                      simp only [List.length_cons, List.length_nil] at hl
                      have HO' := Lib.hid (HO.out x x HX.out e1)
                      have E1 := Lib.hid e1
                      have HW' := Lib.hid (HW.out false he')
                      clear h32 e1 he he'
                      rcases k32 with ⟨t32, u32⟩ | t32
                      all_goals
                        go_wp2_with (go_at_call 95; (with_reducible refine HW'.out.mono ?_); rintro e w5 ⟨rfl, rfl⟩)
                        go_roundw
                        case rel => exact ⟨q + 1, by omega, by go_num, by rw [HLen.out, E1.out]; go_num, HO'⟩
                        case measure => simp [intOf]; omega
                · obtain rfl : q = i := by omega
                  have HA2 := HA.out
                  unfold Url.EscAt at HA2
                  rw [show l.take q = l from List.take_of_length_le (by rw [HL.out]; exact Nat.le_refl _), ← HQ.out] at HA2
                  have hC := HA2.1.whole (by rw [HQ.out]; omega)
                  have hst := Kd.C_string (P := Tryd.prog) (A := some ⟨w2.heap.size, 0, none⟩) (c := 64) Tryd.underlying43 Tryd.underlying5 Tryd.underlying9 hC
                  rw [hr.out, HQ.out] at hst
                  have HB9 := Lib.hid HA2.1.1
                  clear hC HA2
                  go_wp2
                  go_ret
                  exact ⟨rfl, HB9.out⟩
            · have hz : ((i : Int) + 2 * (nh : Int)).toNat = i + 2 * nh := by omega
              go_wp2_with (first | (refine Kd.R_make (Kd.int .u8) _ 5 rfl (N := 54) rfl 43 _ _ rfl _ rfl rfl Tryd.underlying43 (.int .u8 0) 1 info5x rfl (by decide) (by omega) 0 (ok := fun _ => True) (okp := fun _ => True) rfl (fun _ hk => hk) trivial (by omega) (by omega) (Below.refl _ _) (Nat.le_refl _) ?_; intro v1 w6 hR1 hB1 hg_ hnew_; clear hg_ hnew_; rw [hz] at hR1; obtain ⟨g, cap, cur, rfl, hb, hs, hm, hcap, htk, hbase⟩ := Url.row_open hR1 (by rw [List.length_replicate]; omega); rw [List.length_replicate] at hcap htk ⊢; obtain ⟨HG, HNE, HSTART, HMk⟩ := Url.start_make (m := m) (nh := nh) a0 i HN.out l HB.out hB1 hb hs hcap hbase HL.out HBy.out; clear hR1 hb hs hm htk hbase hB1 hcap hz))
              have HQ : Hid ((Url.escL m l).length = i + 2 * nh) := Lib.hid (by rw [hel.out, HL.out])
              go_loopw [13, 78] (fun v13 v78 wr => ∃ q : Nat, q ≤ i ∧ v78 = .int .i64 q ∧ v13 = .int .i64 ((Url.escL m (l.take q)).length : Nat) ∧ Hid (Url.EscAt m l g w6.heap.size (i + 2 * nh) q w wr)) (fun _ v78 _ => i - (intOf v78).toNat)
              case atStart => exact ⟨0, Nat.zero_le _, rfl, rfl, HSTART⟩
              case round =>
                obtain ⟨q, hq, rfl, rfl, HA⟩ := hrel
                by_cases hlt2 : q < i
                · have x0 := HA.out.2 q (by rw [HL.out]; exact hlt2)
                  have hx := HY.out.get q
                  have hl := Url.escL_take_len m l q (by rw [HL.out]; exact hlt2)
                  rw [HQ.out] at hl
                  obtain ⟨⟨v0, c0⟩, f0⟩ := HA.out.1.at (Url.escL m (l.take q)).length (by have := Url.esc1_lens m (l.getD q 0); omega)
                  have HB2 := Lib.hid HA.out.1.1
                  have HO := Lib.hid (fun x y h1 h2 => HA.out.one (i := q) (by rw [HL.out]; exact hlt2) HQ.out HG.out HNE.out (x := x) (y := y) h1 h2)
                  have HTh := Lib.hid (fun x a b c h1 h2 => HA.out.three (i := q) (by rw [HL.out]; exact hlt2) HQ.out HG.out HNE.out (x := x) (a := a) (b := b) (c := c) h1 h2)
                  have HAt := Lib.hid HA.out.1.at
                  have HLen := Lib.hid (Url.escL_len_snoc m l q (by rw [HL.out]; exact hlt2))
                  generalize (Url.escL m (l.take q)).length = j at *
                  have HW := Lib.hid (fun b hb => url_shouldEscape.calls (l.getD q 0) m b wr hx.1 hx.2 hb (HT.out _ HB2.out))
                  obtain ⟨x, hxx⟩ : ∃ x, x = l.getD q 0 := ⟨_, rfl⟩
                  rw [← hxx] at x0 hl HW hx HLen
                  have HX := Lib.hid hxx.symm
                  clear hxx
                  by_cases h32 : x = 32 ∧ m = 32
                  · have e1 : Url.esc1 m x = [43] := by unfold Url.esc1; rw [if_pos h32]
                    rw [e1] at hl
                    simp only [List.length_cons, List.length_nil] at hl
                    have t32 : (x == 32) = true := beq_iff_eq.2 h32.1
                    have u32 : (m == 32) = true := beq_iff_eq.2 h32.2
                    have HO' := Lib.hid (HO.out x 43 HX.out e1)
                    have E1 := Lib.hid e1
                    clear h32 e1
                    go_wp2
                    go_roundw
                    case rel => exact ⟨q + 1, by omega, by go_num, by rw [HLen.out, E1.out]; go_num, HO'⟩
                    case measure => simp [intOf]; omega
                  · have k32 : ((x == 32) = true ∧ (m == 32) = false) ∨ (x == 32) = false := by
                      by_cases a : x = 32
                      · exact .inl ⟨beq_iff_eq.2 a, beq_eq_false_iff_ne.2 (fun b => h32 ⟨a, b⟩)⟩
                      · exact .inr (beq_eq_false_iff_ne.2 a)
                    by_cases he : Url.esc x m = true
                    · have e1 : Url.esc1 m x = [37, Url.hexd (x / 16), Url.hexd (x % 16)] := by unfold Url.esc1; rw [if_neg h32, if_pos he]
                      rw [e1] at hl
                      simp only [List.length_cons, List.length_nil] at hl
                      obtain ⟨⟨v1, c1⟩, f1⟩ := HAt.out (j + 1) (by omega)
                      obtain ⟨⟨v2, c2⟩, f2⟩ := HAt.out (j + 2) (by omega)
                      have HO' := Lib.hid (HTh.out x _ _ _ HX.out e1)
                      have E1 := Lib.hid e1
                      have HW' := Lib.hid (HW.out true he)
                      clear h32 e1 he
                      rcases k32 with ⟨t32, u32⟩ | t32
                      · go_wp2_with (go_at_call 95; (with_reducible refine HW'.out.mono ?_); rintro e w5 ⟨rfl, rfl⟩)
                        go_roundw
                        case rel => exact ⟨q + 1, by omega, by go_num, by rw [HLen.out, E1.out]; go_num, by rw [Url.hexd_get (x / 16) (by omega) (by omega), Url.hexd_get (x % 16) (by omega) (by omega)]; exact HO'⟩
                        case measure => simp [intOf]; omega
                      · go_wp2_with (go_at_call 95; (with_reducible refine HW'.out.mono ?_); rintro e w5 ⟨rfl, rfl⟩)
                        go_roundw
                        case rel => exact ⟨q + 1, by omega, by go_num, by rw [HLen.out, E1.out]; go_num, by rw [Url.hexd_get (x / 16) (by omega) (by omega), Url.hexd_get (x % 16) (by omega) (by omega)]; exact HO'⟩
                        case measure => simp [intOf]; omega
                    · have he' : Url.esc x m = false := by simpa using he
                      have e1 : Url.esc1 m x = [x] := by unfold Url.esc1; rw [if_neg h32, if_neg he]
                      rw [e1] at hl
                      simp only [List.length_cons, List.length_nil] at hl
                      have HO' := Lib.hid (HO.out x x HX.out e1)
                      have E1 := Lib.hid e1
                      have HW' := Lib.hid (HW.out false he')
                      clear h32 e1 he he'
                      rcases k32 with ⟨t32, u32⟩ | t32
                      all_goals
                        go_wp2_with (go_at_call 95; (with_reducible refine HW'.out.mono ?_); rintro e w5 ⟨rfl, rfl⟩)
                        go_roundw
                        case rel => exact ⟨q + 1, by omega, by go_num, by rw [HLen.out, E1.out]; go_num, HO'⟩
                        case measure => simp [intOf]; omega
                · obtain rfl : q = i := by omega
                  have HA2 := HA.out
                  unfold Url.EscAt at HA2
                  rw [show l.take q = l from List.take_of_length_le (by rw [HL.out]; exact Nat.le_refl _), ← HQ.out] at HA2
                  have hC := HA2.1.whole (by rw [HQ.out]; omega)
                  have hst := Kd.C_string (P := Tryd.prog) (A := some ⟨g, 0, none⟩) (c := cap) Tryd.underlying43 Tryd.underlying5 Tryd.underlying9 hC
                  rw [hr.out, HQ.out] at hst
                  have HB9 := Lib.hid HA2.1.1
                  clear hC HA2
                  go_wp2
                  go_ret
                  exact ⟨rfl, HB9.out⟩
  · cases h
end Go.Proofs.YtipkpgmgjdfgoaaDoor.X
