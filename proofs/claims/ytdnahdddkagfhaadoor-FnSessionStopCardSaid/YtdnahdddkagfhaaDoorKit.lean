/- Small words on worlds, blocks and rows of bytes, used by the walks of this seat. They speak of no program. -/
import Derived.Test.YtdnahdddkagfhaaDoorWWords
import Derived.Test.YtdnahdddkagfhaaDoorWMore
import Derived.Test.YtdnahdddkagfhaaDoorWZeros
import Derived.WalkKit
import Derived.Outline
import Derived.Deep.QuietTactic
import Derived.BigQuiet
import Derived.Laws.BitsLemmas
import Derived.OneCell
import Derived.WalkSpells
import Derived.IntWalk
import Derived.Lib.EndianBits
import Derived.Lib.Hide
namespace Go.Proofs.YtdnahdddkagfhaaDoor.X
open Go.RowKit Go.Proofs.YtdnahdddkagfhaaDoorW.PrintWords Go.Proofs.YtdnahdddkagfhaaDoorW.PrintMore

theorem setCell_drewN (w : World) (n : Nat) (a : Addr) (v : Value) : (w.drewN n).setCell a v = (w.setCell a v).drewN n := rfl
theorem alloc_drewN (w : World) (n : Nat) (o : Obj) : (w.drewN n).alloc o = (w.alloc o).drewN n := rfl
theorem ret_eq {v v' : Value} (h : v = v') : Ending.returned v = Ending.returned v' := by rw [h]

/-- What is read of a slice's cells, at an address that is written out. -/
theorem C_base {k : IntKind} {w : World} {A : Option Addr} {n : Nat} {l : List Int} (h : Kd.C (Kd.int k) w A n l) (hn : 0 < n) :
    ∃ g o, A = some ⟨g, o, none⟩ ∧ g < w.heap.size ∧ ∀ i : Nat, i < n → w.cell? ⟨g, o + i, none⟩ = some (.int k (l.getD i 0)) := by
  obtain ⟨hl, _, hh⟩ := h
  obtain ⟨ad, rfl, hc⟩ := hh hn
  have hcell : ∀ i : Nat, i < n → w.cell? (ad.add i) = some (.int k (l.getD i 0)) := by
    intro i hi
    obtain ⟨c, hcl, hcx, hcc⟩ := hc i (l.getD i 0) (by rw [List.getD_eq_getElem?_getD, List.getElem?_eq_getElem (by omega)]; rfl)
    have hcx' : c = [Value.int k (l.getD i 0)] := hcx
    subst hcx'
    have := hcc 0 _ rfl
    simpa [Kd.int, Kd.scalar] using this
  obtain ⟨g, o, spot⟩ := ad
  have hs : spot = none := by simpa [Addr.add] using World.cell?_spot (hcell 0 hn)
  subst hs
  refine ⟨g, o, rfl, ?_, fun i hi => ?_⟩
  · exact World.block_lt_of_cell? w _ (by have := hcell 0 hn; simpa [Addr.add] using this)
  · have := hcell i hi
    unfold Addr.add at this
    split at this
    · rename_i e; have : i = 0 := by simpa using e
      subst this; simpa using ‹w.cell? _ = _›
    · exact this

/-- The other way round. -/
theorem C_of {k : IntKind} {w : World} {l : List Int} {g o : Nat} (hm : l.length ≤ 9223372036854775807) (h : ∀ i : Nat, i < l.length → w.cell? ⟨g, o + i, none⟩ = some (.int k (l.getD i 0))) : Kd.C (Kd.int k) w (some ⟨g, o, none⟩) l.length l := by
  refine ⟨rfl, hm, fun _ => ⟨_, rfl, fun j p hj => ?_⟩⟩
  have hlt := (List.getElem?_eq_some_iff.1 hj).1
  refine ⟨[.int k p], rfl, rfl, fun i u hu => ?_⟩
  have hi : i = 0 := by
    rcases i with _ | i
    · rfl
    · simp at hu
  subst hi
  have hu' : u = .int k p := by simpa using hu.symm
  subst hu'
  have hp : l.getD j 0 = p := by rw [List.getD_eq_getElem?_getD, hj]; rfl
  have := h j hlt
  rw [hp] at this
  unfold Addr.add
  split
  · rename_i e
    have e' : j * 1 + 0 = 0 := by simpa [Kd.int, Kd.scalar] using e
    have : j = 0 := by omega
    subst this
    simpa using ‹w.cell? _ = some (.int k p)›
  · simpa [Kd.int, Kd.scalar] using this
theorem C_empty (k : IntKind) (w : World) (A : Option Addr) : Kd.C (Kd.int k) w A ([] : List Int).length [] := ⟨rfl, by simp, fun h => absurd h (Nat.lt_irrefl 0)⟩
/-- A part of a slice that is read. -/
theorem xC_drop {k : IntKind} {w : World} {g o : Nat} {n : Nat} {l : List Int} (h : Kd.C (Kd.int k) w (some ⟨g, o, none⟩) n l) (j m : Nat) (hm : j + m ≤ n) : Kd.C (Kd.int k) w (some ⟨g, o + j, none⟩) ((l.drop j).take m).length ((l.drop j).take m) := by
  have hl : l.length = n := h.1
  have h2 := h.2.1
  by_cases hn : 0 < n
  · obtain ⟨g', o', e, hg, hc⟩ := C_base h hn
    injection e with e; injection e with e1 e2; subst e1; subst e2
    have hlen : ((l.drop j).take m).length = m := by rw [List.length_take, List.length_drop]; omega
    refine C_of (by omega) fun i hi => ?_
    rw [hlen] at hi
    have := hc (j + i) (by omega)
    rw [show o + j + i = o + (j + i) from by omega, this]
    congr 2
    simp only [List.getD_eq_getElem?_getD]
    rw [List.getElem?_take, if_pos hi, List.getElem?_drop]
  · have : ((l.drop j).take m) = [] := by
      apply List.eq_nil_of_length_eq_zero
      rw [List.length_take, List.length_drop]; omega
    rw [this]; exact C_empty _ _ _

theorem set_far {w : World} {p b i j : Nat} {u : Value} (h : ¬ p = b) : (w.setCell ⟨b, i, none⟩ u).cell? ⟨p, j, none⟩ = w.cell? ⟨p, j, none⟩ := World.cell?_setCell_other _ _ _ _ (fun e => h (by injection e with e _ _; exact e.symm))
theorem cell_alloc {w : World} {a : Addr} {v : Value} (o : Obj) (h : w.cell? a = some v) : (w.alloc o).cell? a = some v := (World.cell?_alloc_lt _ _ _ (World.block_lt_of_cell? w a h)).trans h
theorem xb_lt {w : World} {b : Nat} {o : Obj} (h : w.heap[b]? = some o) : b < w.heap.size := lt_of_block h
theorem xb_cell {w : World} {b : Nat} {cs : Array Value} {t : TypeId} {fr : Nat × Nat} (h : w.heap[b]? = some (.cells cs t fr)) (i : Nat) : w.cell? ⟨b, i, none⟩ = cs[i]? := by simp [World.cell?, h]
theorem blk_free {w : World} {b : Nat} {cs : Array Value} {t : TypeId} (h : w.heap[b]? = some (.cells cs t (0, 0))) (i : Nat) : w.frozen? ⟨b, i, none⟩ = false := by simp [World.frozen?, h]
theorem xb_set {w : World} {b : Nat} {cs : Array Value} {t : TypeId} {fr : Nat × Nat} (h : w.heap[b]? = some (.cells cs t fr)) (i : Nat) (u : Value) : (w.setCell ⟨b, i, none⟩ u).heap[b]? = some (.cells (cs.setIfInBounds i u) t fr) := by
  simp only [World.setCell, Array.getElem?_modify, ↓reduceIte, h, Option.map_some]
  simp
theorem blk_set_other {w : World} {b k : Nat} {i : Nat} {u : Value} (hk : k ≠ b) : (w.setCell ⟨b, i, none⟩ u).heap[k]? = w.heap[k]? := Below.heap_setCell _ _ _ _ hk
theorem xb_alloc {w : World} {b : Nat} {o o' : Obj} (h : w.heap[b]? = some o) : (w.alloc o').heap[b]? = some o := (Below.heap_alloc w o' b (xb_lt h)).trans h
theorem xb_new (w : World) (o : Obj) : (w.alloc o).heap[w.heap.size]? = some o := heap_alloc_new w o
theorem blk_bl {B : Nat} {w w' : World} {b : Nat} {o : Obj} (h : w.heap[b]? = some o) (k : Below B w w') (hb : b < B) : w'.heap[b]? = some o := (k.block b hb).trans h
/-- All that lay there when it began lies there still, behind a second step, too. -/
theorem bl_trans {a b c : World} (h : Below a.heap.size a b) (k : Below b.heap.size b c) : Below a.heap.size a c := h.trans (k.mono h.size)
theorem bl_cell {w w' : World} (h : Below w.heap.size w w') {p : Addr} {v : Value} (hc : w.cell? p = some v) : w'.cell? p = some v := (h.cell (World.block_lt_of_cell? w p hc)).trans hc
theorem bl_drewN (w : World) (n : Nat) : Below w.heap.size w (w.drewN n) := ⟨rfl, rfl, rfl, Nat.le_refl _, fun _ _ => rfl⟩

theorem grown_refl (w : World) (row : Option Nat) : w.grownBy w row := ⟨rfl, rfl, rfl, Nat.le_refl _, fun _ _ _ => rfl⟩
theorem grown_set {a w : World} {g i : Nat} {u : Value} (h : a.grownBy w (some g)) : a.grownBy (w.setCell ⟨g, i, none⟩ u) (some g) :=
  ⟨h.os, h.tape, h.output, by simpa [World.setCell] using h.size, fun k hk hr => by rw [blk_set_other (fun e => hr (by rw [e]))]; exact h.block k hk hr⟩
theorem grown_alloc {a w : World} {row : Option Nat} (h : a.grownBy w row) (o : Obj) : a.grownBy (w.alloc o) row :=
  ⟨h.os, h.tape, h.output, by simp only [World.size_alloc]; have := h.size; omega, fun k hk hr => (Below.heap_alloc _ _ _ (Nat.lt_of_lt_of_le hk h.size)).trans (h.block k hk hr)⟩
theorem grown_bl {a w w' : World} {row : Option Nat} (h : a.grownBy w row) (k : Below w.heap.size w w') : a.grownBy w' row :=
  ⟨k.os.trans h.os, k.tape.trans h.tape, k.output.trans h.output, Nat.le_trans h.size k.size, fun i hi hr => (k.block i (Nat.lt_of_lt_of_le hi h.size)).trans (h.block i hi hr)⟩
theorem grown_trans {a b c : World} {row : Option Nat} (h : a.grownBy b row) (k : b.grownBy c row) : a.grownBy c row :=
  ⟨k.os.trans h.os, k.tape.trans h.tape, k.output.trans h.output, Nat.le_trans h.size k.size, fun i hi hr => (k.block i (Nat.lt_of_lt_of_le hi h.size) hr).trans (h.block i hi hr)⟩
/-- What is written is one block from B on: below B all is as it was. -/
theorem grown_below {B : Nat} {a w w' : World} {g : Nat} (h : Below B a w) (k : w.grownBy w' (some g)) (hB : B ≤ w.heap.size) (hg : B ≤ g) : Below B a w' :=
  h.trans ⟨k.os, k.tape, k.output, k.size, fun i hi => k.block i (by omega) (fun e => by injection e; omega)⟩
theorem ba_size_mk (xs : Array UInt8) : (⟨xs⟩ : ByteArray).size = xs.size := rfl
/-- Bytes. -/
def Byt (l : List Int) : Prop := ∀ x ∈ l, 0 ≤ x ∧ x ≤ 255
instance instDecidableByt (l : List Int) : Decidable (Byt l) := inferInstanceAs (Decidable (∀ x ∈ l, 0 ≤ x ∧ x ≤ 255))
theorem Byt.get {l : List Int} (h : Byt l) (i : Nat) : 0 ≤ l.getD i 0 ∧ l.getD i 0 ≤ 255 := by
  rw [List.getD_eq_getElem?_getD]
  by_cases hi : i < l.length
  · rw [List.getElem?_eq_getElem hi]; exact h _ (List.getElem_mem hi)
  · rw [List.getElem?_eq_none (by omega)]; exact ⟨by simp, by simp⟩
end Go.Proofs.YtdnahdddkagfhaaDoor.X
