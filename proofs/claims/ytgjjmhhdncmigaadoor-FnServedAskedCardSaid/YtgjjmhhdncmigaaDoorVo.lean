/- An argument that is a slice of steps, opened. -/
import Derived.Test.YtgjjmhhdncmigaaDoorVa
import Derived.WalkKit
import Derived.ProofKit
import Derived.OpenShut
import Derived.ChangeArms
import Derived.ChangeOld
import Derived.Deep.DeepHandedRow
namespace Go.Proofs.YtgjjmhhdncmigaaDoor.X
open Go Go.RowKit Go.ChangeShapes Go.WideShapes Go.ChangeAt Go.Proofs.YtgjjmhhdncmigaaDoorW.PrintWords
set_option linter.unusedVariables false
section
variable {H : Type} {enc : TypeId × Value → H} {w : World}
theorem some_at {α : Type} {xs : List α} {n i : Nat} (h : xs.length = n) (hi : i < n) : ∃ x, xs[i]? = some x := ⟨xs[i], List.getElem?_eq_getElem (by omega)⟩
theorem field_at {fs : Array Field} {l : List (TypeId × Nat)} (e : fs.toList.map (fun f => (f.type, f.offset)) = l) {i : Nat} {t : TypeId} {o : Nat} (h : l[i]? = some (t, o)) : ∃ f, fs[i]? = some f ∧ f.type = t ∧ f.offset = o := by
  rw [← e, List.getElem?_map] at h
  obtain ⟨f, hf, hh⟩ := Option.map_eq_some_iff.1 h
  injection hh with h1 h2
  exact ⟨f, by simpa using hf, h1, h2⟩
theorem list3 {l : List Value} (h : l.length = 3) : ∃ a0 a1 a2, l = [a0, a1, a2] := by
  match l, h with
  | [a0, a1, a2], _ => exact ⟨a0, a1, a2, rfl⟩
theorem list4 {l : List Value} (h : l.length = 4) : ∃ a0 a1 a2 a3, l = [a0, a1, a2, a3] := by
  match l, h with
  | [a0, a1, a2, a3], _ => exact ⟨a0, a1, a2, a3, rfl⟩
theorem part_S {held : Bool} {fuel : Nat} {cs : List Value} {x : DataW H × List MemPlace} (h : DataW.trod enc Tryd.prog w 0 (fun _ => true) held fuel 30 cs = some x) :
    ∃ (p a : ByteArray) (n : Int), cs = [.string p, .string a, .int .i64 n] := by
  have c3 : Tryd.prog.cellsOf 3 = 1 := by kernel_rfl
  have c9 : Tryd.prog.cellsOf 9 = 1 := by kernel_rfl
  have c30 : Tryd.prog.cellsOf 30 = 3 := by kernel_rfl
  have u3 : Tryd.prog.underlying 3 = some (.int .i64) := by kernel_rfl
  have u9 : Tryd.prog.underlying 9 = some .string := by kernel_rfl
  have e : (Tryd.prog.underlying 30).map (fun T => match T with | .struct fs => fs.toList.map (fun f => (f.type, f.offset)) | _ => []) = some [(9, 0), (9, 1), (3, 2)] := by kernel_rfl
  obtain ⟨T, hT, hm⟩ := Option.map_eq_some_iff.1 e
  cases T with
  | struct fs =>
    simp only at hm
    obtain ⟨xs, n, -, -, hl, hxl, hf⟩ := DataW.trod_struct hT h
    have hfl : fs.size = 3 := by
      have := congrArg List.length hm
      simpa using this
    rw [hfl] at hxl
    rw [c30] at hl
    obtain ⟨a0, a1, a2, rfl⟩ := list3 hl
    obtain ⟨f0, g0, t0, o0⟩ := field_at hm (i := 0) rfl
    have q0 := hf 0 f0 g0
    obtain ⟨x0, y0⟩ := some_at hxl (show 0 < 3 by decide)
    rw [t0, o0, c9, y0] at q0
    obtain ⟨s0, e0, -⟩ := DataW.trod_string u9 q0
    obtain ⟨f1, g1, t1, o1⟩ := field_at hm (i := 1) rfl
    have q1 := hf 1 f1 g1
    obtain ⟨x1, y1⟩ := some_at hxl (show 1 < 3 by decide)
    rw [t1, o1, c9, y1] at q1
    obtain ⟨s1, e1, -⟩ := DataW.trod_string u9 q1
    obtain ⟨f2, g2, t2, o2⟩ := field_at hm (i := 2) rfl
    have q2 := hf 2 f2 g2
    obtain ⟨x2, y2⟩ := some_at hxl (show 2 < 3 by decide)
    rw [t2, o2, c3, y2] at q2
    obtain ⟨n2, e2, -, w2⟩ := DataW.trod_int u3 q2
    replace e0 : [a0] = _ := e0
    simp only [List.cons.injEq, and_true] at e0
    subst e0
    replace e1 : [a1] = _ := e1
    simp only [List.cons.injEq, and_true] at e1
    subst e1
    replace e2 : [a2] = _ := e2
    simp only [List.cons.injEq, and_true] at e2
    subst e2
    exact ⟨s0, s1, n2, rfl⟩
  | _ => simp at hm
theorem part_C {held : Bool} {fuel : Nat} {cs : List Value} {x : DataW H × List MemPlace} (h : DataW.trod enc Tryd.prog w 0 (fun _ => true) held fuel 32 cs = some x) :
    ∃ p : Sv.Stp, Sv.stpKd.K w p cs := by
  have c3 : Tryd.prog.cellsOf 3 = 1 := by kernel_rfl
  have c30 : Tryd.prog.cellsOf 30 = 3 := by kernel_rfl
  have c32 : Tryd.prog.cellsOf 32 = 4 := by kernel_rfl
  have u3 : Tryd.prog.underlying 3 = some (.int .i64) := by kernel_rfl
  have e : (Tryd.prog.underlying 32).map (fun T => match T with | .struct fs => fs.toList.map (fun f => (f.type, f.offset)) | _ => []) = some [(3, 0), (30, 1)] := by kernel_rfl
  obtain ⟨T, hT, hm⟩ := Option.map_eq_some_iff.1 e
  cases T with
  | struct fs =>
    simp only at hm
    obtain ⟨xs, n, -, -, hl, hxl, hf⟩ := DataW.trod_struct hT h
    have hfl : fs.size = 2 := by
      have := congrArg List.length hm
      simpa using this
    rw [hfl] at hxl
    rw [c32] at hl
    obtain ⟨a0, a1, a2, a3, rfl⟩ := list4 hl
    obtain ⟨f0, g0, t0, o0⟩ := field_at hm (i := 0) rfl
    have q0 := hf 0 f0 g0
    obtain ⟨x0, y0⟩ := some_at hxl (show 0 < 2 by decide)
    rw [t0, o0, c3, y0] at q0
    obtain ⟨n0, e0, -, w0⟩ := DataW.trod_int u3 q0
    obtain ⟨f1, g1, t1, o1⟩ := field_at hm (i := 1) rfl
    have q1 := hf 1 f1 g1
    obtain ⟨x1, y1⟩ := some_at hxl (show 1 < 2 by decide)
    rw [t1, o1, c30, y1] at q1
    obtain ⟨pp, pa, pn, e1⟩ := part_S q1
    replace e0 : [a0] = _ := e0
    simp only [List.cons.injEq, and_true] at e0
    subst e0
    replace e1 : [a1, a2, a3] = _ := e1
    simp only [List.cons.injEq, and_true] at e1
    obtain ⟨rfl, rfl, rfl⟩ := e1
    exact ⟨(n0, pp, pa, pn), [_], _, rfl, rfl, [_], _, rfl, rfl, [_], _, rfl, rfl, rfl⟩
  | _ => simp at hm
theorem cells4 {w : World} {a : Addr} {c1 : List Value} (h : w.cells? 0 a 4 = some c1) : c1.length = 4 ∧ ∀ i u, c1[i]? = some u → w.cell? (a.add i) = some u := by
  unfold World.cells? at h
  rw [if_pos (Nat.zero_le _)] at h
  have hl : c1.length = 4 := by simpa using mapM_some_length h
  refine ⟨hl, fun i u hi => ?_⟩
  have hi4 : i < 4 := by have := (List.getElem?_eq_some_iff.1 hi).1; omega
  exact (mapM_some_get h i i (List.getElem?_range hi4)).trans hi
/-- A slice of steps, opened. -/
theorem parts_C {held : Bool} {fuel : Nat} {cs : List Value} {x : DataW H × List MemPlace} (h : DataW.trod enc Tryd.prog w 0 (fun _ => true) held fuel 22 cs = some x) :
    ∃ (A : Option Addr) (ps : List Sv.Stp) (c : Nat), cs = [.slice A ps.length c] ∧ ps.length ≤ c ∧ Sv.stpKd.C w A ps.length ps ∧ ∀ p ∈ ps, True := by
  have c32 : Tryd.prog.cellsOf 32 = 4 := by kernel_rfl
  have u22 : Tryd.prog.underlying 22 = some (.slice 32) := by kernel_rfl
  rcases DataW.trod_slice u22 h with ⟨rfl, _⟩ | ⟨a, len, cap, elems, rest, n, _, rfl, rfl, hb, hl, hm, hlen, hel, hsp, hns⟩
  · exact ⟨none, [], 0, rfl, Nat.le_refl _, ⟨rfl, by simp, fun h => absurd h (by simp)⟩, by simp⟩
  · have key : ∀ i, i < len → ∃ (c1 : List Value) (p : Sv.Stp), c1.length = 4 ∧ (∀ k u, c1[k]? = some u → w.cell? ((a.add (i * 4)).add k) = some u) ∧ Sv.stpKd.K w p c1 := by
      intro i hi
      have hi' := hel i hi
      rw [List.getElem?_eq_getElem (by omega), c32] at hi'
      obtain ⟨c1, hc1, hx⟩ := Option.bind_eq_some_iff.1 hi'
      obtain ⟨p, hp⟩ := part_C hx
      obtain ⟨h8, hcell⟩ := cells4 hc1
      exact ⟨c1, p, h8, hcell, hp⟩
    have key2 : ∀ i, ∃ p : Sv.Stp, i < len → ∃ c1 : List Value, c1.length = 4 ∧ (∀ k u, c1[k]? = some u → w.cell? ((a.add (i * 4)).add k) = some u) ∧ Sv.stpKd.K w p c1 := by
      intro i
      by_cases hi : i < len
      · obtain ⟨c1, p, hh⟩ := key i hi
        exact ⟨p, fun _ => ⟨c1, hh⟩⟩
      · exact ⟨(0, ByteArray.empty, ByteArray.empty, 0), fun h => absurd h hi⟩
    obtain ⟨f, hf⟩ := Classical.axiomOfChoice key2
    have hll : ((List.range len).map f).length = len := by simp
    refine ⟨some a, (List.range len).map f, cap, by rw [hll], by rw [hll]; exact hl, ?_, fun _ _ => trivial⟩
    refine ⟨rfl, by rw [hll]; have := hm; unfold maxLen at this; omega, fun _ => ⟨a, rfl, fun j p hj => ?_⟩⟩
    have hj' : j < len := by have := (List.getElem?_eq_some_iff.1 hj).1; omega
    have ep : p = f j := by
      rw [List.getElem?_map, List.getElem?_range hj'] at hj
      simpa using hj.symm
    subst ep
    obtain ⟨c1, h1, h2, h3⟩ := hf j hj'
    exact ⟨c1, h1, h3, fun i u hi => by rw [← add_add]; exact h2 i u hi⟩
end
end Go.Proofs.YtgjjmhhdncmigaaDoor.X
