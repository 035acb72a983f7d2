/- The law FnPacketStream: its row, out of its pure law and of what its walk tells; then the card over the given tie. -/
import Derived.Test.YtpacjdlgnoiheaaDoorCards
import Derived.Test.YtpacjdlgnoiheaaDoorTie
import Derived.Test.YtpacjdlgnoiheaaDoorWSized
import Derived.Test.YtpacjdlgnoiheaaDoorOpen
import Derived.Test.YtpacjdlgnoiheaaDoorSx
import Derived.WalkKit
import Derived.ProofKit
import Derived.OpenShut
import Derived.ShutString
import Derived.ChangeOld
import Derived.Below
import Derived.SizedLaws
import Derived.Carry
import Derived.Stop.LaidErr
import Derived.Deep.DeepHandedRow
import Derived.Deep.DeepWitnessRowRef
import Derived.LaidMore
import Derived.SevenTiedAt
namespace Go.Proofs.YtpacjdlgnoiheaaDoor.fnPacketStream
open Go Go.ChangeShapes Go.WideShapes Go.ChangeAt Go.RowKit Go.Proofs.YtpacjdlgnoiheaaDoorW.PrintWords
open Go.ChangeMaps (open_string shut_string)
set_option linter.unusedVariables false
set_option linter.constructorNameAsVariable false
theorem own : ownKnob Tryd.prog.godebug = none := by kernel_rfl
theorem laidOut : laidOutB Tryd.prog = true := by kernel_rfl
theorem door_met (os : Os) (args : Array Value) : laidMet Tryd.prog Rows.fnPacketStreamRow.laid ((World.doorLaid Tryd.prog 400 os).forCall (fun _ _ => 0) ⟨#[], args, []⟩).memory :=
  laidMet_of_run' 8 (by kernel_rfl) (by kernel_rfl)
theorem reads (os : Os) {H : Type} (enc : TypeId × Value → H) : ∃ places, DataW.whole enc Tryd.prog ((World.doorLaid Tryd.prog 400 os).forCall (fun _ _ => 0) ⟨#[], #[.agg #[.int .u16 0, .int .u16 0, .int .u16 0, .int .u16 0, .int .u16 0, .int .u8 0, .int .u8 0, .int .u32 0, .int .u32 0, .bool false], .slice none 0 0], []⟩).memory Tryd.f5.params.toList Rows.fnPacketStreamSpec.vars false (#[.agg #[.int .u16 0, .int .u16 0, .int .u16 0, .int .u16 0, .int .u16 0, .int .u8 0, .int .u8 0, .int .u32 0, .int .u32 0, .bool false], .slice none 0 0] : Array Value).toList 8 = some ([.agg [.lit (.int .u16 0), .lit (.int .u16 0), .lit (.int .u16 0), .lit (.int .u16 0), .lit (.int .u16 0), .lit (.int .u8 0), .lit (.int .u8 0), .lit (.int .u32 0), .lit (.int .u32 0), .lit (.bool false)], .nil], [], places) :=
  ⟨[], by kernel_rfl⟩
theorem cell_int {W : World} {base : Nat} {k : IntKind} {t : TypeId} {v : Value} (ht : Tryd.prog.underlying t = some (.int k)) (h : Cell.okWide Tryd.prog W .any base t v) : ∃ n, v = .int k n ∧ (Lit.int k n).wf = true := by
  simp only [Cell.okWide, ht] at h
  cases v <;> simp_all [Cell.ok, Lit.wf, IntKind.has]
theorem cell_bool {W : World} {base : Nat} {t : TypeId} {v : Value} (ht : Tryd.prog.underlying t = some .bool) (h : Cell.okWide Tryd.prog W .any base t v) : ∃ b, v = .bool b := by
  simp only [Cell.okWide, ht] at h
  cases v <;> simp_all [Cell.ok]
attribute [local irreducible] Cell.okWide
theorem cell_at {W : World} {base : Nat} {ts : List TypeId} {cs : Array Value} (hc : ∀ (i : Nat) v, cs[i]? = some v → ∃ u, ts[i % ts.length]? = some u ∧ Cell.okWide Tryd.prog W .any base u v) (i : Nat) (u : TypeId) (v : Value) (hi : cs[i]? = some v) (hu : ts[i % ts.length]? = some u) : Cell.okWide Tryd.prog W .any base u v := by
  obtain ⟨u', h1, h2⟩ := hc i v hi
  have e : u = u' := Option.some.inj (hu.symm.trans h1)
  rw [e]; exact h2
theorem open_struct34 {W : World} {base : Nat} {v : Value} (h : Value.okWide Tryd.prog W .any base 34 v) : ∃ (a0 : Int) (a1 : Int) (a2 : Int) (a3 : Int) (a4 : Int) (a5 : Int) (a6 : Int) (a7 : Int) (a8 : Int) (a9 : Bool), v = .agg #[.int .u16 a0, .int .u16 a1, .int .u16 a2, .int .u16 a3, .int .u16 a4, .int .u8 a5, .int .u8 a6, .int .u32 a7, .int .u32 a8, .bool a9] ∧ (Lit.int .u16 a0).wf = true ∧ (Lit.int .u16 a1).wf = true ∧ (Lit.int .u16 a2).wf = true ∧ (Lit.int .u16 a3).wf = true ∧ (Lit.int .u16 a4).wf = true ∧ (Lit.int .u8 a5).wf = true ∧ (Lit.int .u8 a6).wf = true ∧ (Lit.int .u32 a7).wf = true ∧ (Lit.int .u32 a8).wf = true := by
  simp only [Value.okWide, Tryd.underlying34] at h
  obtain ⟨cs, rfl, hsz, ts, hts, _, hc⟩ := h
  have e : Tryd.prog.cellTypes Tryd.prog.depth 34 = some [22, 22, 22, 22, 22, 5, 5, 26, 26, 4] := by kernel_rfl
  obtain rfl := Option.some.inj (e.symm.trans hts)
  have en : Tryd.prog.cellsOf 34 = 10 := by kernel_rfl
  rw [en] at hsz
  obtain ⟨l⟩ := cs
  match l, hsz with
  | [x0, x1, x2, x3, x4, x5, x6, x7, x8, x9], _ =>
    obtain ⟨n0, rfl, w0⟩ := cell_int Tryd.underlying22 (cell_at hc 0 22 x0 rfl rfl)
    obtain ⟨n1, rfl, w1⟩ := cell_int Tryd.underlying22 (cell_at hc 1 22 x1 rfl rfl)
    obtain ⟨n2, rfl, w2⟩ := cell_int Tryd.underlying22 (cell_at hc 2 22 x2 rfl rfl)
    obtain ⟨n3, rfl, w3⟩ := cell_int Tryd.underlying22 (cell_at hc 3 22 x3 rfl rfl)
    obtain ⟨n4, rfl, w4⟩ := cell_int Tryd.underlying22 (cell_at hc 4 22 x4 rfl rfl)
    obtain ⟨n5, rfl, w5⟩ := cell_int Tryd.underlying5 (cell_at hc 5 5 x5 rfl rfl)
    obtain ⟨n6, rfl, w6⟩ := cell_int Tryd.underlying5 (cell_at hc 6 5 x6 rfl rfl)
    obtain ⟨n7, rfl, w7⟩ := cell_int Tryd.underlying26 (cell_at hc 7 26 x7 rfl rfl)
    obtain ⟨n8, rfl, w8⟩ := cell_int Tryd.underlying26 (cell_at hc 8 26 x8 rfl rfl)
    obtain ⟨n9, rfl⟩ := cell_bool Tryd.underlying4 (cell_at hc 9 4 x9 rfl rfl)
    exact ⟨n0, n1, n2, n3, n4, n5, n6, n7, n8, n9, rfl, w0, w1, w2, w3, w4, w5, w6, w7, w8⟩
set_option maxRecDepth 100000 in
theorem contract (H : Type) (enc : TypeId × Value → H) (W : World) (base : Nat) (args : Array Value) (ds gs : List (DataW H)) (before : List MemPlace)
    (hval0 : ∀ (j : Nat) t v, Tryd.f5.params[j]? = some t → args[j]? = some v → Value.okWide Tryd.prog W .any base t v)
    (hW : DataW.Whole enc Tryd.prog Tryd.f5.params.toList Rows.fnPacketStreamSpec.vars false W args.toList ds gs before)
    (hsz0 : (DataW.weightsEach Tryd.prog (Tryd.f5.params.toList ++ Rows.fnPacketStreamSpec.plain.varTypes Tryd.prog) (ds ++ gs)).all (· ≤ reachBytes) = true) :
    Calls Tryd.prog 5 args W fun e W' => ∃ v, e = .returned v ∧ Rows.fnPacketStreamSpec.post enc Tryd.prog Tryd.f5 false true false false W args v W' := by
  have hsz := hsz0
  have hval : ∀ (j : Nat) t v, Tryd.f5.params[j]? = some t → args[j]? = some v → Value.okWide Tryd.prog W .any base t v := hval0
  have hW' := hW
  obtain ⟨p, q, hA0, hV, rfl, hfz, hnd⟩ := hW
  have hA : DataW.TrodAll enc Tryd.prog W 0 (fun _ => true) true Tryd.f5.params.toList args.toList ds p := hA0
  rw [Tryd.params5] at hA hval hsz
  obtain ⟨v0, vs0, d0, ds0, p0, q0, hargs, rfl, rfl, h0, r0⟩ := trodAll_cons hA
  obtain ⟨v1, vs1, d1, ds1, p1, q1, rfl, rfl, rfl, h1, r1⟩ := trodAll_cons r0
  obtain ⟨rfl, rfl, rfl⟩ := trodAll_nil r1
  obtain rfl : args = #[v0, v1] := Array.toList_inj.1 hargs
  obtain ⟨rfl, rfl⟩ := trodVars_none hV
  obtain ⟨a0_0, a0_1, a0_2, a0_3, a0_4, a0_5, a0_6, a0_7, a0_8, a0_9, rfl, w0_0, w0_1, w0_2, w0_3, w0_4, w0_5, w0_6, w0_7, w0_8⟩ := open_struct34 (hval 0 34 v0 rfl rfl)
  have k0 := h0
  have lt0 : ∀ x ∈ p0, x.block < W.heap.size := by obtain ⟨m, hm⟩ := k0; exact DataW.trod_lt m _ _ _ hm
  obtain ⟨a1, len1, cap1, rfl⟩ := okWide_slice Tryd.underlying43 (hval 1 43 v1 rfl rfl)
  have k1 := h1
  have lt1 : ∀ x ∈ p1, x.block < W.heap.size := by obtain ⟨m, hm⟩ := k1; exact DataW.trod_lt m _ _ _ hm
  obtain ⟨fuel1, hf1⟩ := h1
  obtain ⟨A1, l1, c1, hcs1, hc1, hC1, hw1⟩ := X.rows_C Tryd.underlying43 Tryd.underlying24 Tryd.underlying5 (by kernel_rfl) (by kernel_rfl) hf1
  simp [Value.cells] at hcs1
  obtain ⟨rfl, rfl, rfl⟩ := hcs1
  clear hA0 hval0 hsz0 hsz
  have h := Pure.FnPacketStream a0_0 a0_1 a0_2 a0_3 a0_4 a0_5 a0_6 a0_7 a0_8 a0_9 w0_0 w0_1 w0_2 w0_3 w0_4 w0_5 w0_6 w0_7 w0_8 l1 hw1
  refine (X.laws_FnPacketStream.calls a0_0 a0_1 a0_2 a0_3 a0_4 a0_5 a0_6 a0_7 a0_8 a0_9 _ _ l1 true W hC1 hc1 h).mono fun e W' ⟨he, bel⟩ => ?_
  subst he
  exact ⟨_, rfl, _, _, _, [], _, [], hW', trodAll_mk1 (shut_bool Tryd.underlying4 _), (trodAll_cons_mk (Below.trod laidOut (by kernel_rfl) (of_decide_eq_true (by kernel_rfl)) k0 bel lt0) (trodAll_cons_mk (Below.trod laidOut (by kernel_rfl) (of_decide_eq_true (by kernel_rfl)) k1 bel lt1) trodAll_mk0)), rfl, bel.frame _, fun h => by cases h⟩
set_option maxRecDepth 100000 in
theorem lifted (os : Os) (started : os.Started) (H : Type) (enc : TypeId × Value → H) (F : Stop.Interp) :
    ReturnsInHanded {} Tryd.checked os 5 .any ((OpenSpec.ofChange Rows.fnPacketStreamSpec).preRow enc Tryd.prog Tryd.f5 Rows.fnPacketStreamRow.domain false Rows.fnPacketStreamRow.laid) (((OpenSpec.ofChange Rows.fnPacketStreamSpec).at F).post enc Tryd.prog Tryd.f5 false true false false) := by
  obtain ⟨places, hx⟩ := reads os enc
  refine returnsInHanded_of_row (C := Tryd.checked) (s := OpenSpec.ofChange Rows.fnPacketStreamSpec) own started (by kernel_rfl) Tryd.func5
    (witness_row_atRef (enc := enc) (C := Tryd.checked) false (World.doorLaid Tryd.prog 400 os) #[.agg #[.int .u16 0, .int .u16 0, .int .u16 0, .int .u16 0, .int .u16 0, .int .u8 0, .int .u8 0, .int .u32 0, .int .u32 0, .bool false], .slice none 0 0] rfl (by kernel_rfl) (by kernel_rfl) (by kernel_rfl)
      (OpenSpec.preRow_of_cond 8 hx (by kernel_rfl) (fun k hk => by cases hk) (by kernel_rfl) (door_met os _))) ?_
  intro W base args ds gs before hval hW _ _ hsz _ _ _
  exact contract H enc W base args ds gs before hval hW hsz
theorem said : Rows.FnPacketStreamSaid :=
  OpenClaim.holds_of_cond 5 Tryd.f5 rfl rfl rfl rfl rfl rfl rfl ⟨rfl, rfl, rfl, rfl, rfl⟩ rfl rfl rfl rfl rfl (by kernel_rfl) Tryd.func5 (by kernel_rfl)
    (of_decide_eq_true (by kernel_rfl)) (by unfold Func.isWrapper; first | (rw [if_pos (by decide +kernel)]; kernel_rfl) | (rw [if_neg (by decide +kernel)]; exact ⟨rfl, rfl⟩))
    (fun os started H enc _ F => by rw [OpenClaim.pre_eq_preRow]; exact lifted os started H enc F)
theorem plain (f : FuncId) (fn : Func) (hf : Tryd.pinned.checked.prog.funcNamed "pub-dodona/laws.FnPacketStream" = some f) (hfn : Tryd.pinned.checked.prog.funcs[f]? = some fn) :
    false = Tryd.pinned.checked.prog.looks [] ∧ ∀ (j : Nat) t, fn.params[j]? = some t → Tryd.pinned.checked.prog.wantsStandIn t = false := by
  obtain rfl : f = 5 := Option.some.inj ((show Tryd.prog.funcNamed "pub-dodona/laws.FnPacketStream" = some 5 by kernel_rfl).symm.trans hf) |>.symm
  obtain rfl : fn = Tryd.f5 := (Option.some.inj (Tryd.func5.symm.trans hfn)).symm
  refine ⟨by kernel_rfl, fun j t ht => ?_⟩
  rw [Tryd.params5] at ht
  have hm : t ∈ [34, 43] := by simpa using Array.mem_of_getElem? ht
  have hall : ([34, 43].all fun u => !Tryd.prog.wantsStandIn u) = true := by kernel_rfl
  exact (show Tryd.prog.wantsStandIn t = false by simpa using List.all_eq_true.1 hall t hm)
theorem card : Rows.FnPacketStreamCardSaid :=
  Claim7.holds_tied_plain_at .later [] _ _ _ _ said (fun _ h => by cases h) (by kernel_rfl) (fun _ h => by cases h) fnPacketStream_row_tie rfl ⟨rfl, rfl⟩ (by kernel_rfl) rfl plain (by kernel_rfl)
end Go.Proofs.YtpacjdlgnoiheaaDoor.fnPacketStream
namespace Go.Proofs.YtpacjdlgnoiheaaDoor
/-- The card, under a short name, for the claim. -/
theorem fnPacketStream_holds : Rows.FnPacketStreamCardSaid := fnPacketStream.card
#print axioms fnPacketStream_holds
end Go.Proofs.YtpacjdlgnoiheaaDoor
