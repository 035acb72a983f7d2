/- What is asked of a session: an argument that is a slice of asks, opened; the steps that it makes. -/
import Derived.Test.YtdnahdddkagfhaaDoorSj
import Derived.Test.YtdnahdddkagfhaaDoorQo
import Derived.Test.YtdnahdddkagfhaaDoorWWords
import Derived.WalkKit
import Derived.ProofKit
import Derived.OpenShut
import Derived.ChangeArms
import Derived.ChangeOld
import Derived.Deep.DeepHandedRow
namespace Go.Proofs.YtdnahdddkagfhaaDoor.X
open Go Go.RowKit Go.ChangeShapes Go.WideShapes Go.ChangeAt Go.Proofs.YtdnahdddkagfhaaDoorW.PrintWords Go.Proofs.YtdnahdddkagfhaaDoorW.PrintMore
set_option linter.unusedVariables false
set_option linter.unusedSimpArgs false
namespace Ses
/-- An ask. -/
structure SA where
  kind : Int
  size : Int
  sb : Bool
  sc : Bool
def saKd : Kd SA := Kd.iso (Kd.pair (Kd.int .u8) (Kd.pair (Kd.int .u8) (Kd.pair Kd.bool Kd.bool))) (fun s => (s.kind, s.size, s.sb, s.sc))
theorem sa_open {w : World} {p : SA} {c : List Value} (h : saKd.K w p c) : c = [.int .u8 p.kind, .int .u8 p.size, .bool p.sb, .bool p.sc] := by
  obtain ⟨c0, d0, rfl, h0, c1, d1, rfl, h1, c2, d2, rfl, h2, h3⟩ := h
  have e0 : c0 = [_] := h0
  have e1 : c1 = [_] := h1
  have e2 : c2 = [_] := h2
  have e3 : d2 = [_] := h3
  subst e0; subst e1; subst e2; subst e3
  rfl
/-- What is known of an ask's numbers. -/
def SA.wf (p : SA) : Prop := (Lit.int .u8 p.kind).wf = true ∧ (Lit.int .u8 p.size).wf = true
/-- The step that an ask makes. -/
def saOf (p : SA) : GS := ⟨p.kind % 10, if p.kind % 10 = 4 ∨ p.kind % 10 = 5 then szOf p.size else p.size, p.sb, p.sc⟩
end Ses
section
variable {H : Type} {enc : TypeId × Value → H} {w : World}
theorem list4 {l : List Value} (h : l.length = 4) : ∃ a0 a1 a2 a3, l = [a0, a1, a2, a3] := by
  match l, h with
  | [a0, a1, a2, a3], _ => exact ⟨a0, a1, a2, a3, rfl⟩
theorem ask_C {held : Bool} {fuel : Nat} {cs : List Value} {x : DataW H × List MemPlace} (h : DataW.trod enc Tryd.prog w 0 (fun _ => true) held fuel 94 cs = some x) :
    ∃ p : Ses.SA, Ses.saKd.K w p cs ∧ p.wf := by
  have c4 : Tryd.prog.cellsOf 4 = 1 := by kernel_rfl
  have c5 : Tryd.prog.cellsOf 5 = 1 := by kernel_rfl
  have c94 : Tryd.prog.cellsOf 94 = 4 := by kernel_rfl
  have u4 : Tryd.prog.underlying 4 = some .bool := by kernel_rfl
  have u5 : Tryd.prog.underlying 5 = some (.int .u8) := by kernel_rfl
  have e : (Tryd.prog.underlying 94).map (fun T => match T with | .struct fs => fs.toList.map (fun f => (f.type, f.offset)) | _ => []) = some [(5, 0), (5, 1), (4, 2), (4, 3)] := by kernel_rfl
  obtain ⟨T, hT, hm⟩ := Option.map_eq_some_iff.1 e
  cases T with
  | struct fs =>
    simp only at hm
    obtain ⟨xs, n, -, -, hl, hxl, hf⟩ := DataW.trod_struct hT h
    have hfl : fs.size = 4 := by
      have := congrArg List.length hm
      simpa using this
    rw [hfl] at hxl
    rw [c94] at hl
    obtain ⟨a0, a1, a2, a3, rfl⟩ := list4 hl
    obtain ⟨f0, g0, t0, o0⟩ := field_at hm (i := 0) rfl
    have q0 := hf 0 f0 g0
    obtain ⟨x0, y0⟩ := some_at hxl (show 0 < 4 by decide)
    rw [t0, o0, c5, y0] at q0
    obtain ⟨n0, e0, -, w0⟩ := DataW.trod_int u5 q0
    obtain ⟨f1, g1, t1, o1⟩ := field_at hm (i := 1) rfl
    have q1 := hf 1 f1 g1
    obtain ⟨x1, y1⟩ := some_at hxl (show 1 < 4 by decide)
    rw [t1, o1, c5, y1] at q1
    obtain ⟨n1, e1, -, w1⟩ := DataW.trod_int u5 q1
    obtain ⟨f2, g2, t2, o2⟩ := field_at hm (i := 2) rfl
    have q2 := hf 2 f2 g2
    obtain ⟨x2, y2⟩ := some_at hxl (show 2 < 4 by decide)
    rw [t2, o2, c4, y2] at q2
    obtain ⟨n2, e2, -⟩ := DataW.trod_bool u4 q2
    obtain ⟨f3, g3, t3, o3⟩ := field_at hm (i := 3) rfl
    have q3 := hf 3 f3 g3
    obtain ⟨x3, y3⟩ := some_at hxl (show 3 < 4 by decide)
    rw [t3, o3, c4, y3] at q3
    obtain ⟨n3, e3, -⟩ := DataW.trod_bool u4 q3
    replace e0 : [a0] = _ := e0
    simp only [List.cons.injEq, and_true] at e0
    subst e0
    replace e1 : [a1] = _ := e1
    simp only [List.cons.injEq, and_true] at e1
    subst e1
    replace e2 : [a2] = _ := e2
    simp only [List.cons.injEq, and_true] at e2
    subst e2
    replace e3 : [a3] = _ := e3
    simp only [List.cons.injEq, and_true] at e3
    subst e3
    exact ⟨⟨n0, n1, n2, n3⟩, ⟨[_], _, rfl, rfl, [_], _, rfl, rfl, [_], _, rfl, rfl, rfl⟩, w0, w1⟩
  | _ => simp at hm
theorem cells4 {w : World} {a : Addr} {c1 : List Value} (h : w.cells? 0 a 4 = some c1) : c1.length = 4 ∧ ∀ i u, c1[i]? = some u → w.cell? (a.add i) = some u := by
  unfold World.cells? at h
  rw [if_pos (Nat.zero_le _)] at h
  have hl : c1.length = 4 := by simpa using mapM_some_length h
  refine ⟨hl, fun i u hi => ?_⟩
  have hi4 : i < 4 := by have := (List.getElem?_eq_some_iff.1 hi).1; omega
  exact (mapM_some_get h i i (List.getElem?_range hi4)).trans hi
/-- A slice of asks, opened. -/
theorem asks_C {held : Bool} {fuel : Nat} {cs : List Value} {x : DataW H × List MemPlace} (h : DataW.trod enc Tryd.prog w 0 (fun _ => true) held fuel 53 cs = some x) :
    ∃ (A : Option Addr) (ps : List Ses.SA) (c : Nat), cs = [.slice A ps.length c] ∧ ps.length ≤ c ∧ Ses.saKd.C w A ps.length ps ∧ ∀ p ∈ ps, p.wf := by
  have c94 : Tryd.prog.cellsOf 94 = 4 := by kernel_rfl
  have u53 : Tryd.prog.underlying 53 = some (.slice 94) := by kernel_rfl
  rcases DataW.trod_slice u53 h with ⟨rfl, _⟩ | ⟨a, len, cap, elems, rest, n, _, rfl, rfl, hb, hl, hm, hlen, hel, hsp, hns⟩
  · exact ⟨none, [], 0, rfl, Nat.le_refl _, ⟨rfl, by simp, fun h => absurd h (by simp)⟩, by simp⟩
  · have key : ∀ i, i < len → ∃ (c1 : List Value) (p : Ses.SA), c1.length = 4 ∧ (∀ k u, c1[k]? = some u → w.cell? ((a.add (i * 4)).add k) = some u) ∧ Ses.saKd.K w p c1 ∧ p.wf := by
      intro i hi
      have hi' := hel i hi
      rw [List.getElem?_eq_getElem (by omega), c94] at hi'
      obtain ⟨c1, hc1, hx⟩ := Option.bind_eq_some_iff.1 hi'
      obtain ⟨p, hp, hw⟩ := ask_C hx
      obtain ⟨h4, hcell⟩ := cells4 hc1
      exact ⟨c1, p, h4, hcell, hp, hw⟩
    have key2 : ∀ i, ∃ p : Ses.SA, i < len → ∃ c1 : List Value, c1.length = 4 ∧ (∀ k u, c1[k]? = some u → w.cell? ((a.add (i * 4)).add k) = some u) ∧ Ses.saKd.K w p c1 ∧ p.wf := by
      intro i
      by_cases hi : i < len
      · obtain ⟨c1, p, hh⟩ := key i hi
        exact ⟨p, fun _ => ⟨c1, hh⟩⟩
      · exact ⟨⟨0, 0, false, false⟩, fun h => absurd h hi⟩
    obtain ⟨f, hf⟩ := Classical.axiomOfChoice key2
    have hll : ((List.range len).map f).length = len := by simp
    refine ⟨some a, (List.range len).map f, cap, by rw [hll], by rw [hll]; exact hl, ?_, ?_⟩
    · refine ⟨rfl, by rw [hll]; have := hm; unfold maxLen at this; omega, fun _ => ⟨a, rfl, fun j p hj => ?_⟩⟩
      have hj' : j < len := by have := (List.getElem?_eq_some_iff.1 hj).1; omega
      have ep : p = f j := by
        rw [List.getElem?_map, List.getElem?_range hj'] at hj
        simpa using hj.symm
      subst ep
      obtain ⟨c1, h1, h2, h3, _⟩ := hf j hj'
      exact ⟨c1, h1, h3, fun i u hi => by rw [← add_add]; exact h2 i u hi⟩
    · intro p hp
      obtain ⟨i, hi, rfl⟩ := List.mem_map.1 hp
      obtain ⟨c1, _, _, _, h5⟩ := hf i (List.mem_range.1 hi)
      exact h5
end
namespace Ses
theorem gs_makeA {w : World} {base : Nat} {ok : Nat → Prop} (k s : Int) (b c : Bool) : gsKd.M w base ok ⟨k, s, b, c⟩ [.int .i64 k, .int .i64 s, .bool b, .bool c] :=
  ⟨[_], _, rfl, rfl, [_], _, rfl, rfl, [_], _, rfl, rfl, rfl⟩
theorem ask_lt {α : Type} {l : List α} {j : Nat} {p : α} (h : l[j]? = some p) : j < l.length := (List.getElem?_eq_some_iff.1 h).1
theorem ask_eq {α : Type} {l : List α} {j : Nat} {p : α} (h : l[j]? = some p) : l[j]'(ask_lt h) = p := (List.getElem?_eq_some_iff.1 h).2
end Ses
attribute [local go_sem] setCell_drewN alloc_drewN
set_option maxHeartbeats 16000000 in
set_option maxRecDepth 100000 in
theorem sessionAsks_ok (ps : List Ses.SA) (A : Option Addr) (cA : Nat) (w : World) (hC : Ses.saKd.C w A ps.length ps) (ok : ∀ p ∈ ps, 0 ≤ p.kind ∧ p.kind ≤ 255 ∧ 0 ≤ p.size ∧ p.size ≤ 255) (hn : ps.length ≤ 30) :
    Calls Tryd.prog 28 #[.slice A ps.length cA] w fun e w' => ∃ v, e = .returned v ∧ Ses.gsKd.R 35 w' w.heap.size (fun _ => True) v (ps.map Ses.saOf) ∧ Below w.heap.size w w' := by
  have infG : (Tryd.prog.info? 35).map (fun i => (i.zero, i.size, i.bytes)) = some (some (.agg #[.int .i64 0, .int .i64 0, .bool false, .bool false]), 4, 24) := by kernel_rfl
  have HC := Lib.hid hC
  have HOk := Lib.hid ok
  obtain ⟨n, hnl⟩ : ∃ n, n = ps.length := ⟨_, rfl⟩
  have HN := Lib.hid hnl
  rw [← hnl] at hn ⊢
  clear hC ok hnl
  go_enter Tryd.func28, Tryd.ntmps28
  go_wp2
  go_loopw [3, 9] (fun v3 v9 wr => ∃ (j : Nat) (rs : List Ses.GS), v9 = .int .i64 j ∧ j ≤ n ∧ Hid (Ses.gsKd.R 35 wr w.heap.size (fun _ => True) v3 rs) ∧ Hid (Below w.heap.size w wr) ∧ Hid (rs.length = j) ∧ Hid (rs = (ps.take j).map Ses.saOf)) (fun _ v9 _ => n - (intOf v9).toNat)
  case atStart => exact ⟨0, [], rfl, Nat.zero_le _, Lib.hid (Kd.R_nil _ _ _ _ _), Lib.hid (Below.refl _ _), Lib.hid rfl, Lib.hid (by rw [List.take_zero]; rfl)⟩
  case round =>
    obtain ⟨j, rs, rfl, hj, HRow, HB, HL, HE⟩ := hrel
    by_cases hlt : j < n
    · have hjl : j < ps.length := by rw [← HN.out]; exact hlt
      have t2 : decide ((j : Int) < (n : Int)) = true := decide_eq_true (by omega)
      obtain ⟨p, hp⟩ : ∃ p, ps[j]? = some p := ⟨_, List.getElem?_eq_getElem hjl⟩
      obtain ⟨g0, o0, rfl, -, hel0⟩ := Kd.C_head HC.out (by decide) (by omega)
      obtain ⟨cl0, -, hK0, hcell0⟩ := hel0 j p hp
      obtain rfl := Ses.sa_open hK0
      have hcell : ∀ i u, _ → wr.cell? ⟨g0, o0 + j * 4 + i, none⟩ = some u := fun i u h => bl_cell HB.out (hcell0 i u h)
      obtain ⟨kd, size, pb, pc⟩ := p
      simp only at hcell
      have s0 : wr.cell? ⟨g0, o0 + j * 4, none⟩ = some (.int .u8 kd) := hcell 0 _ rfl
      have s1 : wr.cell? ⟨g0, o0 + j * 4 + 1, none⟩ = some (.int .u8 size) := hcell 1 _ rfl
      have s2 : wr.cell? ⟨g0, o0 + j * 4 + 2, none⟩ = some (.bool pb) := hcell 2 _ rfl
      have s3 : wr.cell? ⟨g0, o0 + j * 4 + 3, none⟩ = some (.bool pc) := hcell 3 _ rfl
      have HP := Lib.hid hp
      obtain ⟨k0, k1, z0, z1⟩ := HOk.out _ (List.mem_of_getElem? hp)
      simp only at k0 k1 z0 z1
      clear hp hel0 hK0 hcell hcell0 hjl
      have hwk : IntKind.i64.wrap (kd % 10) = kd % 10 := (IntKind.wrap_i64 _).trans (by omega)
      have hws : IntKind.i64.wrap size = size := (IntKind.wrap_i64 _).trans (by omega)
      by_cases h4 : kd % 10 = 4 ∨ kd % 10 = 5
      · have hm : size % 4 = 0 ∨ size % 4 = 1 ∨ size % 4 = 2 ∨ size % 4 = 3 := by omega
        rcases h4 with h4 | h4
        · have t4 : decide (kd % 10 = 4) = true := decide_eq_true (by omega)
          have t5 : decide (kd % 10 = 5) = false := decide_eq_false (by omega)
          rcases hm with hm | hm | hm | hm
          · go_wp2_with ((with_reducible refine gate_builtin (b := .append) (xs := #[.tmp 40, .tmp 42]) rfl ?_); at_builtin; refine Kd.R_append Ses.gsKd (w0 := w) w.heap.size rfl (.tmp 40) (.tmp 42) 36 35 _ 24 rfl Tryd.underlying36 infG rfl (by decide) (by decide) u3 rs ⟨4, 1, pb, pc⟩ [.int .i64 4, .int .i64 1, .bool pb, .bool pc] (fun _ => True) (fun k => False) ?aV ?aX ?aP ?aK (fun _ _ => trivial) ?aO ?aB ?aS ?aL ?_; (case aV => exact rfl); (case aX => first | exact rfl | (simp only [World.size_alloc, World.size_setCell]; exact rfl)); (case aP => exact Ses.gs_makeA _ _ _ _); (case aK => exact fun k hk => absurd hk id); (case aO => exact Kd.R_below HRow.out (by repeat (first | exact Below.refl _ _ | refine Below.setCell ?_ (by omega) _ | refine below_alloc ?_ _))); (case aB => exact HB.out.trans (Below.mono (by repeat (first | exact Below.refl _ _ | refine Below.setCell ?_ (by omega) _ | refine below_alloc ?_ _)) HB.out.size)); (case aS => exact (HB.out.trans (Below.mono (by repeat (first | exact Below.refl _ _ | refine Below.setCell ?_ (by omega) _ | refine below_alloc ?_ _)) HB.out.size)).size); (case aL => (rw [HL.out]; omega)); intro v10 w10 ho hb hg hat; have HO10 := Lib.hid ho; have HB10 := Lib.hid hb; clear ho hb hg hat)
            go_roundw
            case measure => simp [intOf]; omega
            case rel =>
              refine ⟨j + 1, rs ++ [⟨4, 1, pb, pc⟩], by go_num, by omega, HO10, HB10, Lib.hid (by rw [List.length_append, HL.out]; rfl), Lib.hid ?_⟩
              rw [HE.out, List.take_succ_eq_append_getElem (Ses.ask_lt HP.out), List.map_append]
              refine congrArg _ ?_
              rw [List.map_cons, List.map_nil, Ses.ask_eq HP.out]
              refine congrArg (fun x => [x]) ?_
              show _ = Ses.saOf ⟨kd, size, pb, pc⟩
              unfold Ses.saOf
              rw [if_pos (by simp only; omega)]
              simp [Ses.szOf, hm, h4]
          · go_wp2_with ((with_reducible refine gate_builtin (b := .append) (xs := #[.tmp 40, .tmp 42]) rfl ?_); at_builtin; refine Kd.R_append Ses.gsKd (w0 := w) w.heap.size rfl (.tmp 40) (.tmp 42) 36 35 _ 24 rfl Tryd.underlying36 infG rfl (by decide) (by decide) u3 rs ⟨4, 2, pb, pc⟩ [.int .i64 4, .int .i64 2, .bool pb, .bool pc] (fun _ => True) (fun k => False) ?aV ?aX ?aP ?aK (fun _ _ => trivial) ?aO ?aB ?aS ?aL ?_; (case aV => exact rfl); (case aX => first | exact rfl | (simp only [World.size_alloc, World.size_setCell]; exact rfl)); (case aP => exact Ses.gs_makeA _ _ _ _); (case aK => exact fun k hk => absurd hk id); (case aO => exact Kd.R_below HRow.out (by repeat (first | exact Below.refl _ _ | refine Below.setCell ?_ (by omega) _ | refine below_alloc ?_ _))); (case aB => exact HB.out.trans (Below.mono (by repeat (first | exact Below.refl _ _ | refine Below.setCell ?_ (by omega) _ | refine below_alloc ?_ _)) HB.out.size)); (case aS => exact (HB.out.trans (Below.mono (by repeat (first | exact Below.refl _ _ | refine Below.setCell ?_ (by omega) _ | refine below_alloc ?_ _)) HB.out.size)).size); (case aL => (rw [HL.out]; omega)); intro v10 w10 ho hb hg hat; have HO10 := Lib.hid ho; have HB10 := Lib.hid hb; clear ho hb hg hat)
            go_roundw
            case measure => simp [intOf]; omega
            case rel =>
              refine ⟨j + 1, rs ++ [⟨4, 2, pb, pc⟩], by go_num, by omega, HO10, HB10, Lib.hid (by rw [List.length_append, HL.out]; rfl), Lib.hid ?_⟩
              rw [HE.out, List.take_succ_eq_append_getElem (Ses.ask_lt HP.out), List.map_append]
              refine congrArg _ ?_
              rw [List.map_cons, List.map_nil, Ses.ask_eq HP.out]
              refine congrArg (fun x => [x]) ?_
              show _ = Ses.saOf ⟨kd, size, pb, pc⟩
              unfold Ses.saOf
              rw [if_pos (by simp only; omega)]
              simp [Ses.szOf, hm, h4]
          · go_wp2_with ((with_reducible refine gate_builtin (b := .append) (xs := #[.tmp 40, .tmp 42]) rfl ?_); at_builtin; refine Kd.R_append Ses.gsKd (w0 := w) w.heap.size rfl (.tmp 40) (.tmp 42) 36 35 _ 24 rfl Tryd.underlying36 infG rfl (by decide) (by decide) u3 rs ⟨4, 4, pb, pc⟩ [.int .i64 4, .int .i64 4, .bool pb, .bool pc] (fun _ => True) (fun k => False) ?aV ?aX ?aP ?aK (fun _ _ => trivial) ?aO ?aB ?aS ?aL ?_; (case aV => exact rfl); (case aX => first | exact rfl | (simp only [World.size_alloc, World.size_setCell]; exact rfl)); (case aP => exact Ses.gs_makeA _ _ _ _); (case aK => exact fun k hk => absurd hk id); (case aO => exact Kd.R_below HRow.out (by repeat (first | exact Below.refl _ _ | refine Below.setCell ?_ (by omega) _ | refine below_alloc ?_ _))); (case aB => exact HB.out.trans (Below.mono (by repeat (first | exact Below.refl _ _ | refine Below.setCell ?_ (by omega) _ | refine below_alloc ?_ _)) HB.out.size)); (case aS => exact (HB.out.trans (Below.mono (by repeat (first | exact Below.refl _ _ | refine Below.setCell ?_ (by omega) _ | refine below_alloc ?_ _)) HB.out.size)).size); (case aL => (rw [HL.out]; omega)); intro v10 w10 ho hb hg hat; have HO10 := Lib.hid ho; have HB10 := Lib.hid hb; clear ho hb hg hat)
            go_roundw
            case measure => simp [intOf]; omega
            case rel =>
              refine ⟨j + 1, rs ++ [⟨4, 4, pb, pc⟩], by go_num, by omega, HO10, HB10, Lib.hid (by rw [List.length_append, HL.out]; rfl), Lib.hid ?_⟩
              rw [HE.out, List.take_succ_eq_append_getElem (Ses.ask_lt HP.out), List.map_append]
              refine congrArg _ ?_
              rw [List.map_cons, List.map_nil, Ses.ask_eq HP.out]
              refine congrArg (fun x => [x]) ?_
              show _ = Ses.saOf ⟨kd, size, pb, pc⟩
              unfold Ses.saOf
              rw [if_pos (by simp only; omega)]
              simp [Ses.szOf, hm, h4]
          · go_wp2_with ((with_reducible refine gate_builtin (b := .append) (xs := #[.tmp 40, .tmp 42]) rfl ?_); at_builtin; refine Kd.R_append Ses.gsKd (w0 := w) w.heap.size rfl (.tmp 40) (.tmp 42) 36 35 _ 24 rfl Tryd.underlying36 infG rfl (by decide) (by decide) u3 rs ⟨4, 8, pb, pc⟩ [.int .i64 4, .int .i64 8, .bool pb, .bool pc] (fun _ => True) (fun k => False) ?aV ?aX ?aP ?aK (fun _ _ => trivial) ?aO ?aB ?aS ?aL ?_; (case aV => exact rfl); (case aX => first | exact rfl | (simp only [World.size_alloc, World.size_setCell]; exact rfl)); (case aP => exact Ses.gs_makeA _ _ _ _); (case aK => exact fun k hk => absurd hk id); (case aO => exact Kd.R_below HRow.out (by repeat (first | exact Below.refl _ _ | refine Below.setCell ?_ (by omega) _ | refine below_alloc ?_ _))); (case aB => exact HB.out.trans (Below.mono (by repeat (first | exact Below.refl _ _ | refine Below.setCell ?_ (by omega) _ | refine below_alloc ?_ _)) HB.out.size)); (case aS => exact (HB.out.trans (Below.mono (by repeat (first | exact Below.refl _ _ | refine Below.setCell ?_ (by omega) _ | refine below_alloc ?_ _)) HB.out.size)).size); (case aL => (rw [HL.out]; omega)); intro v10 w10 ho hb hg hat; have HO10 := Lib.hid ho; have HB10 := Lib.hid hb; clear ho hb hg hat)
            go_roundw
            case measure => simp [intOf]; omega
            case rel =>
              refine ⟨j + 1, rs ++ [⟨4, 8, pb, pc⟩], by go_num, by omega, HO10, HB10, Lib.hid (by rw [List.length_append, HL.out]; rfl), Lib.hid ?_⟩
              rw [HE.out, List.take_succ_eq_append_getElem (Ses.ask_lt HP.out), List.map_append]
              refine congrArg _ ?_
              rw [List.map_cons, List.map_nil, Ses.ask_eq HP.out]
              refine congrArg (fun x => [x]) ?_
              show _ = Ses.saOf ⟨kd, size, pb, pc⟩
              unfold Ses.saOf
              rw [if_pos (by simp only; omega)]
              simp [Ses.szOf, hm, h4]
        · have t4 : decide (kd % 10 = 4) = false := decide_eq_false (by omega)
          have t5 : decide (kd % 10 = 5) = true := decide_eq_true (by omega)
          rcases hm with hm | hm | hm | hm
          · go_wp2_with ((with_reducible refine gate_builtin (b := .append) (xs := #[.tmp 40, .tmp 42]) rfl ?_); at_builtin; refine Kd.R_append Ses.gsKd (w0 := w) w.heap.size rfl (.tmp 40) (.tmp 42) 36 35 _ 24 rfl Tryd.underlying36 infG rfl (by decide) (by decide) u3 rs ⟨5, 1, pb, pc⟩ [.int .i64 5, .int .i64 1, .bool pb, .bool pc] (fun _ => True) (fun k => False) ?aV ?aX ?aP ?aK (fun _ _ => trivial) ?aO ?aB ?aS ?aL ?_; (case aV => exact rfl); (case aX => first | exact rfl | (simp only [World.size_alloc, World.size_setCell]; exact rfl)); (case aP => exact Ses.gs_makeA _ _ _ _); (case aK => exact fun k hk => absurd hk id); (case aO => exact Kd.R_below HRow.out (by repeat (first | exact Below.refl _ _ | refine Below.setCell ?_ (by omega) _ | refine below_alloc ?_ _))); (case aB => exact HB.out.trans (Below.mono (by repeat (first | exact Below.refl _ _ | refine Below.setCell ?_ (by omega) _ | refine below_alloc ?_ _)) HB.out.size)); (case aS => exact (HB.out.trans (Below.mono (by repeat (first | exact Below.refl _ _ | refine Below.setCell ?_ (by omega) _ | refine below_alloc ?_ _)) HB.out.size)).size); (case aL => (rw [HL.out]; omega)); intro v10 w10 ho hb hg hat; have HO10 := Lib.hid ho; have HB10 := Lib.hid hb; clear ho hb hg hat)
            go_roundw
            case measure => simp [intOf]; omega
            case rel =>
              refine ⟨j + 1, rs ++ [⟨5, 1, pb, pc⟩], by go_num, by omega, HO10, HB10, Lib.hid (by rw [List.length_append, HL.out]; rfl), Lib.hid ?_⟩
              rw [HE.out, List.take_succ_eq_append_getElem (Ses.ask_lt HP.out), List.map_append]
              refine congrArg _ ?_
              rw [List.map_cons, List.map_nil, Ses.ask_eq HP.out]
              refine congrArg (fun x => [x]) ?_
              show _ = Ses.saOf ⟨kd, size, pb, pc⟩
              unfold Ses.saOf
              rw [if_pos (by simp only; omega)]
              simp [Ses.szOf, hm, h4]
          · go_wp2_with ((with_reducible refine gate_builtin (b := .append) (xs := #[.tmp 40, .tmp 42]) rfl ?_); at_builtin; refine Kd.R_append Ses.gsKd (w0 := w) w.heap.size rfl (.tmp 40) (.tmp 42) 36 35 _ 24 rfl Tryd.underlying36 infG rfl (by decide) (by decide) u3 rs ⟨5, 2, pb, pc⟩ [.int .i64 5, .int .i64 2, .bool pb, .bool pc] (fun _ => True) (fun k => False) ?aV ?aX ?aP ?aK (fun _ _ => trivial) ?aO ?aB ?aS ?aL ?_; (case aV => exact rfl); (case aX => first | exact rfl | (simp only [World.size_alloc, World.size_setCell]; exact rfl)); (case aP => exact Ses.gs_makeA _ _ _ _); (case aK => exact fun k hk => absurd hk id); (case aO => exact Kd.R_below HRow.out (by repeat (first | exact Below.refl _ _ | refine Below.setCell ?_ (by omega) _ | refine below_alloc ?_ _))); (case aB => exact HB.out.trans (Below.mono (by repeat (first | exact Below.refl _ _ | refine Below.setCell ?_ (by omega) _ | refine below_alloc ?_ _)) HB.out.size)); (case aS => exact (HB.out.trans (Below.mono (by repeat (first | exact Below.refl _ _ | refine Below.setCell ?_ (by omega) _ | refine below_alloc ?_ _)) HB.out.size)).size); (case aL => (rw [HL.out]; omega)); intro v10 w10 ho hb hg hat; have HO10 := Lib.hid ho; have HB10 := Lib.hid hb; clear ho hb hg hat)
            go_roundw
            case measure => simp [intOf]; omega
            case rel =>
              refine ⟨j + 1, rs ++ [⟨5, 2, pb, pc⟩], by go_num, by omega, HO10, HB10, Lib.hid (by rw [List.length_append, HL.out]; rfl), Lib.hid ?_⟩
              rw [HE.out, List.take_succ_eq_append_getElem (Ses.ask_lt HP.out), List.map_append]
              refine congrArg _ ?_
              rw [List.map_cons, List.map_nil, Ses.ask_eq HP.out]
              refine congrArg (fun x => [x]) ?_
              show _ = Ses.saOf ⟨kd, size, pb, pc⟩
              unfold Ses.saOf
              rw [if_pos (by simp only; omega)]
              simp [Ses.szOf, hm, h4]
          · go_wp2_with ((with_reducible refine gate_builtin (b := .append) (xs := #[.tmp 40, .tmp 42]) rfl ?_); at_builtin; refine Kd.R_append Ses.gsKd (w0 := w) w.heap.size rfl (.tmp 40) (.tmp 42) 36 35 _ 24 rfl Tryd.underlying36 infG rfl (by decide) (by decide) u3 rs ⟨5, 4, pb, pc⟩ [.int .i64 5, .int .i64 4, .bool pb, .bool pc] (fun _ => True) (fun k => False) ?aV ?aX ?aP ?aK (fun _ _ => trivial) ?aO ?aB ?aS ?aL ?_; (case aV => exact rfl); (case aX => first | exact rfl | (simp only [World.size_alloc, World.size_setCell]; exact rfl)); (case aP => exact Ses.gs_makeA _ _ _ _); (case aK => exact fun k hk => absurd hk id); (case aO => exact Kd.R_below HRow.out (by repeat (first | exact Below.refl _ _ | refine Below.setCell ?_ (by omega) _ | refine below_alloc ?_ _))); (case aB => exact HB.out.trans (Below.mono (by repeat (first | exact Below.refl _ _ | refine Below.setCell ?_ (by omega) _ | refine below_alloc ?_ _)) HB.out.size)); (case aS => exact (HB.out.trans (Below.mono (by repeat (first | exact Below.refl _ _ | refine Below.setCell ?_ (by omega) _ | refine below_alloc ?_ _)) HB.out.size)).size); (case aL => (rw [HL.out]; omega)); intro v10 w10 ho hb hg hat; have HO10 := Lib.hid ho; have HB10 := Lib.hid hb; clear ho hb hg hat)
            go_roundw
            case measure => simp [intOf]; omega
            case rel =>
              refine ⟨j + 1, rs ++ [⟨5, 4, pb, pc⟩], by go_num, by omega, HO10, HB10, Lib.hid (by rw [List.length_append, HL.out]; rfl), Lib.hid ?_⟩
              rw [HE.out, List.take_succ_eq_append_getElem (Ses.ask_lt HP.out), List.map_append]
              refine congrArg _ ?_
              rw [List.map_cons, List.map_nil, Ses.ask_eq HP.out]
              refine congrArg (fun x => [x]) ?_
              show _ = Ses.saOf ⟨kd, size, pb, pc⟩
              unfold Ses.saOf
              rw [if_pos (by simp only; omega)]
              simp [Ses.szOf, hm, h4]
          · go_wp2_with ((with_reducible refine gate_builtin (b := .append) (xs := #[.tmp 40, .tmp 42]) rfl ?_); at_builtin; refine Kd.R_append Ses.gsKd (w0 := w) w.heap.size rfl (.tmp 40) (.tmp 42) 36 35 _ 24 rfl Tryd.underlying36 infG rfl (by decide) (by decide) u3 rs ⟨5, 8, pb, pc⟩ [.int .i64 5, .int .i64 8, .bool pb, .bool pc] (fun _ => True) (fun k => False) ?aV ?aX ?aP ?aK (fun _ _ => trivial) ?aO ?aB ?aS ?aL ?_; (case aV => exact rfl); (case aX => first | exact rfl | (simp only [World.size_alloc, World.size_setCell]; exact rfl)); (case aP => exact Ses.gs_makeA _ _ _ _); (case aK => exact fun k hk => absurd hk id); (case aO => exact Kd.R_below HRow.out (by repeat (first | exact Below.refl _ _ | refine Below.setCell ?_ (by omega) _ | refine below_alloc ?_ _))); (case aB => exact HB.out.trans (Below.mono (by repeat (first | exact Below.refl _ _ | refine Below.setCell ?_ (by omega) _ | refine below_alloc ?_ _)) HB.out.size)); (case aS => exact (HB.out.trans (Below.mono (by repeat (first | exact Below.refl _ _ | refine Below.setCell ?_ (by omega) _ | refine below_alloc ?_ _)) HB.out.size)).size); (case aL => (rw [HL.out]; omega)); intro v10 w10 ho hb hg hat; have HO10 := Lib.hid ho; have HB10 := Lib.hid hb; clear ho hb hg hat)
            go_roundw
            case measure => simp [intOf]; omega
            case rel =>
              refine ⟨j + 1, rs ++ [⟨5, 8, pb, pc⟩], by go_num, by omega, HO10, HB10, Lib.hid (by rw [List.length_append, HL.out]; rfl), Lib.hid ?_⟩
              rw [HE.out, List.take_succ_eq_append_getElem (Ses.ask_lt HP.out), List.map_append]
              refine congrArg _ ?_
              rw [List.map_cons, List.map_nil, Ses.ask_eq HP.out]
              refine congrArg (fun x => [x]) ?_
              show _ = Ses.saOf ⟨kd, size, pb, pc⟩
              unfold Ses.saOf
              rw [if_pos (by simp only; omega)]
              simp [Ses.szOf, hm, h4]
      · have t4 : decide (kd % 10 = 4) = false := decide_eq_false (by omega)
        have t5 : decide (kd % 10 = 5) = false := decide_eq_false (by omega)
        have t4b : (kd % 10 == 4) = false := beq_eq_false_iff_ne.2 (by omega)
        have t5b : (kd % 10 == 5) = false := beq_eq_false_iff_ne.2 (by omega)
        go_wp2_with ((with_reducible refine gate_builtin (b := .append) (xs := #[.tmp 40, .tmp 42]) rfl ?_); at_builtin; refine Kd.R_append Ses.gsKd (w0 := w) w.heap.size rfl (.tmp 40) (.tmp 42) 36 35 _ 24 rfl Tryd.underlying36 infG rfl (by decide) (by decide) u3 rs ⟨(kd % 10), size, pb, pc⟩ [.int .i64 (kd % 10), .int .i64 size, .bool pb, .bool pc] (fun _ => True) (fun k => False) ?aV ?aX ?aP ?aK (fun _ _ => trivial) ?aO ?aB ?aS ?aL ?_; (case aV => exact rfl); (case aX => first | exact rfl | (simp only [World.size_alloc, World.size_setCell]; exact rfl)); (case aP => exact Ses.gs_makeA _ _ _ _); (case aK => exact fun k hk => absurd hk id); (case aO => exact Kd.R_below HRow.out (by repeat (first | exact Below.refl _ _ | refine Below.setCell ?_ (by omega) _ | refine below_alloc ?_ _))); (case aB => exact HB.out.trans (Below.mono (by repeat (first | exact Below.refl _ _ | refine Below.setCell ?_ (by omega) _ | refine below_alloc ?_ _)) HB.out.size)); (case aS => exact (HB.out.trans (Below.mono (by repeat (first | exact Below.refl _ _ | refine Below.setCell ?_ (by omega) _ | refine below_alloc ?_ _)) HB.out.size)).size); (case aL => (rw [HL.out]; omega)); intro v10 w10 ho hb hg hat; have HO10 := Lib.hid ho; have HB10 := Lib.hid hb; clear ho hb hg hat)
        go_roundw
        case measure => simp [intOf]; omega
        case rel =>
          refine ⟨j + 1, rs ++ [⟨(kd % 10), size, pb, pc⟩], by go_num, by omega, HO10, HB10, Lib.hid (by rw [List.length_append, HL.out]; rfl), Lib.hid ?_⟩
          rw [HE.out, List.take_succ_eq_append_getElem (Ses.ask_lt HP.out), List.map_append]
          refine congrArg _ ?_
          rw [List.map_cons, List.map_nil, Ses.ask_eq HP.out]
          refine congrArg (fun x => [x]) ?_
          show _ = Ses.saOf ⟨kd, size, pb, pc⟩
          unfold Ses.saOf
          rw [if_neg (by simp only; omega)]
    · have hjn : j = n := by omega
      have t2 : decide ((j : Int) < (n : Int)) = false := decide_eq_false (by omega)
      have hO := HRow.out
      rw [HE.out, hjn, HN.out, List.take_length] at hO
      have HO := Lib.hid hO
      clear hO
      go_wp2
      go_ret
      exact ⟨u3, rfl, HO.out, HB.out⟩
end Go.Proofs.YtdnahdddkagfhaaDoor.X
