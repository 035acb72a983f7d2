/- An argument that is a slice of slices of integers, opened: what it holds, as the printed contracts read it. -/
import Derived.Test.YtpacjdlgnoiheaaDoorKit
import Derived.Test.YtpacjdlgnoiheaaDoorWWords
import Derived.WalkKit
import Derived.ProofKit
import Derived.OpenShut
import Derived.ChangeArms
import Derived.ChangeOld
import Derived.Deep.DeepHandedRow
namespace Go.Proofs.YtpacjdlgnoiheaaDoor.X
open Go Go.RowKit Go.ChangeShapes Go.WideShapes Go.ChangeAt Go.Proofs.YtpacjdlgnoiheaaDoorW.PrintWords
set_option linter.unusedVariables false
section
variable {H : Type} {enc : TypeId × Value → H} {P : Program} {w : World}
/-- One slice of integers, opened. -/
theorem ints_C {t e : TypeId} {k : IntKind} {held : Bool} {fuel : Nat} {cs : List Value} {x : DataW H × List MemPlace} (ht : P.underlying t = some (.slice e)) (he : P.underlying e = some (.int k)) (hc : P.cellsOf e = 1)
    (h : DataW.trod enc P w 0 (fun _ => true) held fuel t cs = some x) :
    ∃ (A : Option Addr) (l : List Int) (c : Nat), cs = [.slice A l.length c] ∧ l.length ≤ c ∧ Kd.C (Kd.int k) w A l.length l ∧ ∀ n ∈ l, (Lit.int k n).wf = true := by
  rcases open_ints ht he hc h with ⟨rfl, _⟩ | ⟨a, len, cap, zs, rfl, _, hl, hm, hz, _, hcell, hwf⟩
  · exact ⟨none, [], 0, rfl, Nat.le_refl _, ⟨rfl, by simp, fun h => absurd h (by simp)⟩, by simp⟩
  · simp only [if_true] at hz
    have hlen : (zs.take len).length = len := by rw [List.length_take]; omega
    obtain ⟨l, e1, hr, _, hw, hcc⟩ := ReadsInt.ofRowC (w := w) (k := k) (a := some a) (len := len) (cap := cap) (zs := zs) (.inr ⟨a, rfl, hl, hm, hz, hcell, hwf⟩)
    subst e1
    exact ⟨some a, l, cap, rfl, hcc, Kd.C_of_reads (d := (0 : Int)) (h1 := fun _ => rfl) hr, hw⟩
/-- A slice of such slices, opened. -/
theorem rows_C {t e e2 : TypeId} {k : IntKind} {held : Bool} {fuel : Nat} {cs : List Value} {x : DataW H × List MemPlace} (ht : P.underlying t = some (.slice e)) (he : P.underlying e = some (.slice e2)) (h2 : P.underlying e2 = some (.int k)) (hc : P.cellsOf e = 1) (hc2 : P.cellsOf e2 = 1)
    (h : DataW.trod enc P w 0 (fun _ => true) held fuel t cs = some x) :
    ∃ (A : Option Addr) (ls : List (List Int)) (c : Nat), cs = [.slice A ls.length c] ∧ ls.length ≤ c ∧ Kd.C (Kd.slice e2 (Kd.int k)) w A ls.length ls ∧ (∀ l ∈ ls, ∀ n ∈ l, (Lit.int k n).wf = true) := by
  rcases DataW.trod_slice ht h with ⟨rfl, _⟩ | ⟨a, len, cap, elems, rest, n, _, rfl, rfl, hb, hl, hm, hlen, hel, hsp, hns⟩
  · exact ⟨none, [], 0, rfl, Nat.le_refl _, ⟨rfl, by simp, fun h => absurd h (by simp)⟩, by simp⟩
  · have key : ∀ i, i < len → ∃ (A : Option Addr) (l : List Int) (c : Nat), w.cell? (a.add i) = some (.slice A l.length c) ∧ l.length ≤ c ∧ Kd.C (Kd.int k) w A l.length l ∧ ∀ n ∈ l, (Lit.int k n).wf = true := by
      intro i hi
      have hi' := hel i hi
      rw [List.getElem?_eq_getElem (by omega), hc, Nat.mul_one] at hi'
      obtain ⟨c1, hc1, hx⟩ := Option.bind_eq_some_iff.1 hi'
      obtain ⟨A, l, c, e1, h3, h4, h5⟩ := ints_C he h2 hc2 hx
      subst e1
      refine ⟨A, l, c, ?_, h3, h4, h5⟩
      unfold World.cells? at hc1
      rw [if_pos (Nat.zero_le _)] at hc1
      have e0 : (a.add i).add 0 = a.add i := rfl
      have hc3 : (w.cell? ((a.add i).add 0)).bind (fun v => some [v]) = some [Value.slice A l.length c] := by
        rw [← hc1]
        cases hq : w.cell? ((a.add i).add 0) <;> simp [List.range_succ, hq]
      obtain ⟨v, hv, hvv⟩ := Option.bind_eq_some_iff.1 hc3
      rw [e0] at hv
      simp at hvv
      rw [hv, hvv]
    have key2 : ∀ i, ∃ l : List Int, i < len → ∃ (A : Option Addr) (c : Nat), w.cell? (a.add i) = some (.slice A l.length c) ∧ l.length ≤ c ∧ Kd.C (Kd.int k) w A l.length l ∧ ∀ n ∈ l, (Lit.int k n).wf = true := by
      intro i
      by_cases hi : i < len
      · obtain ⟨A, l, c, hh⟩ := key i hi
        exact ⟨l, fun _ => ⟨A, c, hh⟩⟩
      · exact ⟨[], fun h => absurd h hi⟩
    obtain ⟨f, hf⟩ := Classical.axiomOfChoice key2
    have hll : ((List.range len).map f).length = len := by simp
    refine ⟨some a, (List.range len).map f, cap, by rw [hll], by rw [hll]; exact hl, ?_, ?_⟩
    · refine ⟨rfl, by rw [hll]; have := hm; unfold maxLen at this; omega, fun _ => ⟨a, rfl, fun j p hj => ?_⟩⟩
      have hj' : j < len := by have := (List.getElem?_eq_some_iff.1 hj).1; omega
      have ep : p = f j := by
        rw [List.getElem?_map, List.getElem?_range hj'] at hj
        simpa using hj.symm
      subst ep
      obtain ⟨A, c, h1, h3, h4, _⟩ := hf j hj'
      refine ⟨[.slice A (f j).length c], rfl, ⟨A, c, rfl, h3, h4⟩, fun i u hi => ?_⟩
      match i, hi with
      | 0, hi =>
        simp at hi
        subst hi
        show w.cell? (a.add (j * 1 + 0)) = _
        rw [Nat.mul_one, Nat.add_zero]
        exact h1
      | n + 1, hi => simp at hi
    · intro l hl' x hx
      obtain ⟨i, hi, rfl⟩ := List.mem_map.1 hl'
      obtain ⟨A, c, _, _, _, h5⟩ := hf i (List.mem_range.1 hi)
      exact h5 x hx
end
end Go.Proofs.YtpacjdlgnoiheaaDoor.X
