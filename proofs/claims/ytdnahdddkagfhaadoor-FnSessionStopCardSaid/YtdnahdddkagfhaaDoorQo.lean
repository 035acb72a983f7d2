/- An argument that is a slice of parts, opened. -/
import Derived.Test.YtdnahdddkagfhaaDoorQa
import Derived.Test.YtdnahdddkagfhaaDoorWWords
import Derived.WalkKit
import Derived.ProofKit
import Derived.OpenShut
import Derived.ChangeArms
import Derived.ChangeOld
import Derived.Deep.DeepHandedRow
namespace Go.Proofs.YtdnahdddkagfhaaDoor.X
open Go Go.RowKit Go.ChangeShapes Go.WideShapes Go.ChangeAt Go.Proofs.YtdnahdddkagfhaaDoorW.PrintWords
set_option linter.unusedVariables false
section
variable {H : Type} {enc : TypeId × Value → H} {P : Program} {w : World}
/-- One slice of integers, opened. -/
theorem part_ints {t e : TypeId} {k : IntKind} {held : Bool} {fuel : Nat} {cs : List Value} {x : DataW H × List MemPlace} (ht : P.underlying t = some (.slice e)) (he : P.underlying e = some (.int k)) (hc : P.cellsOf e = 1)
    (h : DataW.trod enc P w 0 (fun _ => true) held fuel t cs = some x) :
    ∃ (A : Option Addr) (l : List Int) (c : Nat), cs = [.slice A l.length c] ∧ l.length ≤ c ∧ Kd.C (Kd.int k) w A l.length l ∧ ∀ n ∈ l, (Lit.int k n).wf = true := by
  rcases open_ints ht he hc h with ⟨rfl, _⟩ | ⟨a, len, cap, zs, rfl, _, hl, hm, hz, _, hcell, hwf⟩
  · exact ⟨none, [], 0, rfl, Nat.le_refl _, ⟨rfl, by simp, fun h => absurd h (by simp)⟩, by simp⟩
  · simp only [if_true] at hz
    have hlen : (zs.take len).length = len := by rw [List.length_take]; omega
    obtain ⟨l, e1, hr, _, hw, hcc⟩ := ReadsInt.ofRowC (w := w) (k := k) (a := some a) (len := len) (cap := cap) (zs := zs) (.inr ⟨a, rfl, hl, hm, hz, hcell, hwf⟩)
    subst e1
    exact ⟨some a, l, cap, rfl, hcc, Kd.C_of_reads (d := (0 : Int)) (h1 := fun _ => rfl) hr, hw⟩
theorem some_at {α : Type} {xs : List α} {n i : Nat} (h : xs.length = n) (hi : i < n) : ∃ x, xs[i]? = some x := ⟨xs[i], List.getElem?_eq_getElem (by omega)⟩
end
namespace Ses
/-- What is known of a part's numbers. -/
def SP.wf (p : SP) : Prop := (Lit.int .u8 p.kind).wf = true ∧ (Lit.int .u8 p.size).wf = true ∧ (Lit.int .u64 p.num).wf = true ∧ (Lit.int .u8 p.flag).wf = true ∧ (∀ x ∈ p.data, (Lit.int .u8 x).wf = true) ∧ (∀ x ∈ p.other, (Lit.int .u8 x).wf = true)
end Ses
section
variable {H : Type} {enc : TypeId × Value → H} {w : World}
theorem field_at {fs : Array Field} {l : List (TypeId × Nat)} (e : fs.toList.map (fun f => (f.type, f.offset)) = l) {i : Nat} {t : TypeId} {o : Nat} (h : l[i]? = some (t, o)) : ∃ f, fs[i]? = some f ∧ f.type = t ∧ f.offset = o := by
  rw [← e, List.getElem?_map] at h
  obtain ⟨f, hf, hh⟩ := Option.map_eq_some_iff.1 h
  injection hh with h1 h2
  exact ⟨f, by simpa using hf, h1, h2⟩
theorem list8 {l : List Value} (h : l.length = 8) : ∃ a0 a1 a2 a3 a4 a5 a6 a7, l = [a0, a1, a2, a3, a4, a5, a6, a7] := by
  match l, h with
  | [a0, a1, a2, a3, a4, a5, a6, a7], _ => exact ⟨a0, a1, a2, a3, a4, a5, a6, a7, rfl⟩
theorem part_C {held : Bool} {fuel : Nat} {cs : List Value} {x : DataW H × List MemPlace} (h : DataW.trod enc Tryd.prog w 0 (fun _ => true) held fuel 70 cs = some x) :
    ∃ p : Ses.SP, Ses.spKd.K w p cs ∧ p.wf := by
  have c4 : Tryd.prog.cellsOf 4 = 1 := by kernel_rfl
  have c5 : Tryd.prog.cellsOf 5 = 1 := by kernel_rfl
  have c27 : Tryd.prog.cellsOf 27 = 1 := by kernel_rfl
  have c22 : Tryd.prog.cellsOf 22 = 1 := by kernel_rfl
  have c70 : Tryd.prog.cellsOf 70 = 8 := by kernel_rfl
  have u4 : Tryd.prog.underlying 4 = some .bool := by kernel_rfl
  have u5 : Tryd.prog.underlying 5 = some (.int .u8) := by kernel_rfl
  have u27 : Tryd.prog.underlying 27 = some (.int .u64) := by kernel_rfl
  have u22 : Tryd.prog.underlying 22 = some (.slice 5) := by kernel_rfl
  have e : (Tryd.prog.underlying 70).map (fun T => match T with | .struct fs => fs.toList.map (fun f => (f.type, f.offset)) | _ => []) = some [(5, 0), (5, 1), (27, 2), (4, 3), (4, 4), (5, 5), (22, 6), (22, 7)] := by kernel_rfl
  obtain ⟨T, hT, hm⟩ := Option.map_eq_some_iff.1 e
  cases T with
  | struct fs =>
    simp only at hm
    obtain ⟨xs, n, -, -, hl, hxl, hf⟩ := DataW.trod_struct hT h
    have hfl : fs.size = 8 := by
      have := congrArg List.length hm
      simpa using this
    rw [hfl] at hxl
    rw [c70] at hl
    obtain ⟨a0, a1, a2, a3, a4, a5, a6, a7, rfl⟩ := list8 hl
    obtain ⟨f0, g0, t0, o0⟩ := field_at hm (i := 0) rfl
    have q0 := hf 0 f0 g0
    obtain ⟨x0, y0⟩ := some_at hxl (show 0 < 8 by decide)
    rw [t0, o0, c5, y0] at q0
    obtain ⟨n0, e0, -, w0⟩ := DataW.trod_int u5 q0
    obtain ⟨f1, g1, t1, o1⟩ := field_at hm (i := 1) rfl
    have q1 := hf 1 f1 g1
    obtain ⟨x1, y1⟩ := some_at hxl (show 1 < 8 by decide)
    rw [t1, o1, c5, y1] at q1
    obtain ⟨n1, e1, -, w1⟩ := DataW.trod_int u5 q1
    obtain ⟨f2, g2, t2, o2⟩ := field_at hm (i := 2) rfl
    have q2 := hf 2 f2 g2
    obtain ⟨x2, y2⟩ := some_at hxl (show 2 < 8 by decide)
    rw [t2, o2, c27, y2] at q2
    obtain ⟨n2, e2, -, w2⟩ := DataW.trod_int u27 q2
    obtain ⟨f3, g3, t3, o3⟩ := field_at hm (i := 3) rfl
    have q3 := hf 3 f3 g3
    obtain ⟨x3, y3⟩ := some_at hxl (show 3 < 8 by decide)
    rw [t3, o3, c4, y3] at q3
    obtain ⟨n3, e3, -⟩ := DataW.trod_bool u4 q3
    obtain ⟨f4, g4, t4, o4⟩ := field_at hm (i := 4) rfl
    have q4 := hf 4 f4 g4
    obtain ⟨x4, y4⟩ := some_at hxl (show 4 < 8 by decide)
    rw [t4, o4, c4, y4] at q4
    obtain ⟨n4, e4, -⟩ := DataW.trod_bool u4 q4
    obtain ⟨f5, g5, t5, o5⟩ := field_at hm (i := 5) rfl
    have q5 := hf 5 f5 g5
    obtain ⟨x5, y5⟩ := some_at hxl (show 5 < 8 by decide)
    rw [t5, o5, c5, y5] at q5
    obtain ⟨n5, e5, -, w5⟩ := DataW.trod_int u5 q5
    obtain ⟨f6, g6, t6, o6⟩ := field_at hm (i := 6) rfl
    have q6 := hf 6 f6 g6
    obtain ⟨x6, y6⟩ := some_at hxl (show 6 < 8 by decide)
    rw [t6, o6, c22, y6] at q6
    obtain ⟨A6, l6, m6, e6, h6, C6, w6⟩ := part_ints u22 u5 c5 q6
    obtain ⟨f7, g7, t7, o7⟩ := field_at hm (i := 7) rfl
    have q7 := hf 7 f7 g7
    obtain ⟨x7, y7⟩ := some_at hxl (show 7 < 8 by decide)
    rw [t7, o7, c22, y7] at q7
    obtain ⟨A7, l7, m7, e7, h7, C7, w7⟩ := part_ints u22 u5 c5 q7
    replace e0 : [a0] = _ := e0
    simp only [List.cons.injEq, and_true] at e0
    subst e0
    replace e1 : [a1] = _ := e1
    simp only [List.cons.injEq, and_true] at e1
    subst e1
    replace e2 : [a2] = _ := e2
    simp only [List.cons.injEq, and_true] at e2
    subst e2
    replace e3 : [a3] = _ := e3
    simp only [List.cons.injEq, and_true] at e3
    subst e3
    replace e4 : [a4] = _ := e4
    simp only [List.cons.injEq, and_true] at e4
    subst e4
    replace e5 : [a5] = _ := e5
    simp only [List.cons.injEq, and_true] at e5
    subst e5
    replace e6 : [a6] = _ := e6
    simp only [List.cons.injEq, and_true] at e6
    subst e6
    replace e7 : [a7] = _ := e7
    simp only [List.cons.injEq, and_true] at e7
    subst e7
    exact ⟨⟨n0, n1, n2, n3, n4, n5, l6, l7⟩, ⟨[_], _, rfl, rfl, [_], _, rfl, rfl, [_], _, rfl, rfl, [_], _, rfl, rfl, [_], _, rfl, rfl, [_], _, rfl, rfl, [_], _, rfl, ⟨A6, m6, rfl, h6, C6⟩, ⟨A7, m7, rfl, h7, C7⟩⟩, w0, w1, w2, w5, w6, w7⟩
  | _ => simp at hm
theorem cells8 {w : World} {a : Addr} {c1 : List Value} (h : w.cells? 0 a 8 = some c1) : c1.length = 8 ∧ ∀ i u, c1[i]? = some u → w.cell? (a.add i) = some u := by
  unfold World.cells? at h
  rw [if_pos (Nat.zero_le _)] at h
  have hl : c1.length = 8 := by simpa using mapM_some_length h
  refine ⟨hl, fun i u hi => ?_⟩
  have hi8 : i < 8 := by have := (List.getElem?_eq_some_iff.1 hi).1; omega
  exact (mapM_some_get h i i (List.getElem?_range hi8)).trans hi
/-- A slice of parts, opened. -/
theorem parts_C {held : Bool} {fuel : Nat} {cs : List Value} {x : DataW H × List MemPlace} (h : DataW.trod enc Tryd.prog w 0 (fun _ => true) held fuel 51 cs = some x) :
    ∃ (A : Option Addr) (ps : List Ses.SP) (c : Nat), cs = [.slice A ps.length c] ∧ ps.length ≤ c ∧ Ses.spKd.C w A ps.length ps ∧ ∀ p ∈ ps, p.wf := by
  have c70 : Tryd.prog.cellsOf 70 = 8 := by kernel_rfl
  have u51 : Tryd.prog.underlying 51 = some (.slice 70) := by kernel_rfl
  rcases DataW.trod_slice u51 h with ⟨rfl, _⟩ | ⟨a, len, cap, elems, rest, n, _, rfl, rfl, hb, hl, hm, hlen, hel, hsp, hns⟩
  · exact ⟨none, [], 0, rfl, Nat.le_refl _, ⟨rfl, by simp, fun h => absurd h (by simp)⟩, by simp⟩
  · have key : ∀ i, i < len → ∃ (c1 : List Value) (p : Ses.SP), c1.length = 8 ∧ (∀ k u, c1[k]? = some u → w.cell? ((a.add (i * 8)).add k) = some u) ∧ Ses.spKd.K w p c1 ∧ p.wf := by
      intro i hi
      have hi' := hel i hi
      rw [List.getElem?_eq_getElem (by omega), c70] at hi'
      obtain ⟨c1, hc1, hx⟩ := Option.bind_eq_some_iff.1 hi'
      obtain ⟨p, hp, hw⟩ := part_C hx
      obtain ⟨h8, hcell⟩ := cells8 hc1
      exact ⟨c1, p, h8, hcell, hp, hw⟩
    have key2 : ∀ i, ∃ p : Ses.SP, i < len → ∃ c1 : List Value, c1.length = 8 ∧ (∀ k u, c1[k]? = some u → w.cell? ((a.add (i * 8)).add k) = some u) ∧ Ses.spKd.K w p c1 ∧ p.wf := by
      intro i
      by_cases hi : i < len
      · obtain ⟨c1, p, hh⟩ := key i hi
        exact ⟨p, fun _ => ⟨c1, hh⟩⟩
      · exact ⟨⟨0, 0, 0, false, false, 0, [], []⟩, fun h => absurd h hi⟩
    obtain ⟨f, hf⟩ := Classical.axiomOfChoice key2
    have hll : ((List.range len).map f).length = len := by simp
    refine ⟨some a, (List.range len).map f, cap, by rw [hll], by rw [hll]; exact hl, ?_, ?_⟩
    · refine ⟨rfl, by rw [hll]; have := hm; unfold maxLen at this; omega, fun _ => ⟨a, rfl, fun j p hj => ?_⟩⟩
      have hj' : j < len := by have := (List.getElem?_eq_some_iff.1 hj).1; omega
      have ep : p = f j := by
        rw [List.getElem?_map, List.getElem?_range hj'] at hj
        simpa using hj.symm
      subst ep
      obtain ⟨c1, h1, h2, h3, _⟩ := hf j hj'
      exact ⟨c1, h1, h3, fun i u hi => by rw [← add_add]; exact h2 i u hi⟩
    · intro p hp
      obtain ⟨i, hi, rfl⟩ := List.mem_map.1 hp
      obtain ⟨c1, _, _, _, h5⟩ := hf i (List.mem_range.1 hi)
      exact h5
end
end Go.Proofs.YtdnahdddkagfhaaDoor.X
