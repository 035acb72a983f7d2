/- The law FnIntervalSign: its row, out of its pure law and of what its walk tells; then the card over the given tie. -/
import Derived.Test.YtinggdcfhlbahaaDoorCards
import Derived.Test.YtinggdcfhlbahaaDoorTie
import Derived.Test.YtinggdcfhlbahaaDoorWSized
import Derived.Test.YtinggdcfhlbahaaDoorPureFnIntervalCut
import Derived.Test.YtinggdcfhlbahaaDoorZP
import Derived.WalkKit
import Derived.ProofKit
import Derived.OpenShut
import Derived.ShutString
import Derived.ChangeOld
import Derived.Below
import Derived.SizedLaws
import Derived.Carry
import Derived.Stop.LaidErr
import Derived.Deep.DeepHandedRow
import Derived.Deep.DeepWitnessRowRef
import Derived.LaidMore
import Derived.SevenTiedAt
namespace Go.Proofs.YtinggdcfhlbahaaDoor.fnIntervalSign
open Go Go.ChangeShapes Go.WideShapes Go.ChangeAt Go.RowKit Go.Proofs.YtinggdcfhlbahaaDoorW.PrintWords
open Go.ChangeMaps (open_string shut_string)
set_option linter.unusedVariables false
set_option linter.constructorNameAsVariable false
theorem own : ownKnob Tryd.prog.godebug = none := by kernel_rfl
theorem laidOut : laidOutB Tryd.prog = true := by kernel_rfl
theorem door_met (os : Os) (args : Array Value) : laidMet Tryd.prog Rows.fnIntervalSignRow.laid ((World.doorLaid Tryd.prog 400 os).forCall (fun _ _ => 0) ⟨#[], args, []⟩).memory :=
  laidMet_of_run' 8 (by kernel_rfl) (by kernel_rfl)
theorem reads (os : Os) {H : Type} (enc : TypeId × Value → H) : ∃ places, DataW.whole enc Tryd.prog ((World.doorLaid Tryd.prog 400 os).forCall (fun _ _ => 0) ⟨#[], #[.agg #[.bool false, .int .i64 0, .int .i64 0, .int .i64 0, .int .i64 0, .int .i64 0, .int .i64 0, .int .i64 0]], []⟩).memory Tryd.f4.params.toList Rows.fnIntervalSignSpec.vars false (#[.agg #[.bool false, .int .i64 0, .int .i64 0, .int .i64 0, .int .i64 0, .int .i64 0, .int .i64 0, .int .i64 0]] : Array Value).toList 8 = some ([.agg [.lit (.bool false), .lit (.int .i64 0), .lit (.int .i64 0), .lit (.int .i64 0), .lit (.int .i64 0), .lit (.int .i64 0), .lit (.int .i64 0), .lit (.int .i64 0)]], [], places) :=
  ⟨[], by kernel_rfl⟩
theorem cell_int {W : World} {base : Nat} {k : IntKind} {t : TypeId} {v : Value} (ht : Tryd.prog.underlying t = some (.int k)) (h : Cell.okWide Tryd.prog W .any base t v) : ∃ n, v = .int k n ∧ (Lit.int k n).wf = true := by
  simp only [Cell.okWide, ht] at h
  cases v <;> simp_all [Cell.ok, Lit.wf, IntKind.has]
theorem cell_bool {W : World} {base : Nat} {t : TypeId} {v : Value} (ht : Tryd.prog.underlying t = some .bool) (h : Cell.okWide Tryd.prog W .any base t v) : ∃ b, v = .bool b := by
  simp only [Cell.okWide, ht] at h
  cases v <;> simp_all [Cell.ok]
attribute [local irreducible] Cell.okWide
theorem cell_at {W : World} {base : Nat} {ts : List TypeId} {cs : Array Value} (hc : ∀ (i : Nat) v, cs[i]? = some v → ∃ u, ts[i % ts.length]? = some u ∧ Cell.okWide Tryd.prog W .any base u v) (i : Nat) (u : TypeId) (v : Value) (hi : cs[i]? = some v) (hu : ts[i % ts.length]? = some u) : Cell.okWide Tryd.prog W .any base u v := by
  obtain ⟨u', h1, h2⟩ := hc i v hi
  have e : u = u' := Option.some.inj (hu.symm.trans h1)
  rw [e]; exact h2
theorem open_struct23 {W : World} {base : Nat} {v : Value} (h : Value.okWide Tryd.prog W .any base 23 v) : ∃ (a0 : Bool) (a1 : Int) (a2 : Int) (a3 : Int) (a4 : Int) (a5 : Int) (a6 : Int) (a7 : Int), v = .agg #[.bool a0, .int .i64 a1, .int .i64 a2, .int .i64 a3, .int .i64 a4, .int .i64 a5, .int .i64 a6, .int .i64 a7] ∧ (Lit.int .i64 a1).wf = true ∧ (Lit.int .i64 a2).wf = true ∧ (Lit.int .i64 a3).wf = true ∧ (Lit.int .i64 a4).wf = true ∧ (Lit.int .i64 a5).wf = true ∧ (Lit.int .i64 a6).wf = true ∧ (Lit.int .i64 a7).wf = true := by
  simp only [Value.okWide, Tryd.underlying23] at h
  obtain ⟨cs, rfl, hsz, ts, hts, _, hc⟩ := h
  have e : Tryd.prog.cellTypes Tryd.prog.depth 23 = some [4, 3, 3, 3, 3, 3, 3, 3] := by kernel_rfl
  obtain rfl := Option.some.inj (e.symm.trans hts)
  have en : Tryd.prog.cellsOf 23 = 8 := by kernel_rfl
  rw [en] at hsz
  obtain ⟨l⟩ := cs
  match l, hsz with
  | [x0, x1, x2, x3, x4, x5, x6, x7], _ =>
    obtain ⟨n0, rfl⟩ := cell_bool Tryd.underlying4 (cell_at hc 0 4 x0 rfl rfl)
    obtain ⟨n1, rfl, w1⟩ := cell_int Tryd.underlying3 (cell_at hc 1 3 x1 rfl rfl)
    obtain ⟨n2, rfl, w2⟩ := cell_int Tryd.underlying3 (cell_at hc 2 3 x2 rfl rfl)
    obtain ⟨n3, rfl, w3⟩ := cell_int Tryd.underlying3 (cell_at hc 3 3 x3 rfl rfl)
    obtain ⟨n4, rfl, w4⟩ := cell_int Tryd.underlying3 (cell_at hc 4 3 x4 rfl rfl)
    obtain ⟨n5, rfl, w5⟩ := cell_int Tryd.underlying3 (cell_at hc 5 3 x5 rfl rfl)
    obtain ⟨n6, rfl, w6⟩ := cell_int Tryd.underlying3 (cell_at hc 6 3 x6 rfl rfl)
    obtain ⟨n7, rfl, w7⟩ := cell_int Tryd.underlying3 (cell_at hc 7 3 x7 rfl rfl)
    exact ⟨n0, n1, n2, n3, n4, n5, n6, n7, rfl, w1, w2, w3, w4, w5, w6, w7⟩
set_option maxRecDepth 100000 in
theorem contract (H : Type) (enc : TypeId × Value → H) (W : World) (base : Nat) (args : Array Value) (ds gs : List (DataW H)) (before : List MemPlace)
    (hval0 : ∀ (j : Nat) t v, Tryd.f4.params[j]? = some t → args[j]? = some v → Value.okWide Tryd.prog W .any base t v)
    (hW : DataW.Whole enc Tryd.prog Tryd.f4.params.toList Rows.fnIntervalSignSpec.vars false W args.toList ds gs before)
    (hsz0 : (DataW.weightsEach Tryd.prog (Tryd.f4.params.toList ++ Rows.fnIntervalSignSpec.plain.varTypes Tryd.prog) (ds ++ gs)).all (· ≤ reachBytes) = true) (hL : laidMet Tryd.prog Rows.fnIntervalSignRow.laid W) :
    Calls Tryd.prog 4 args W fun e W' => ∃ v, e = .returned v ∧ Rows.fnIntervalSignSpec.post enc Tryd.prog Tryd.f4 false true false false W args v W' := by
  have htab : X.Tab W := Lib.tabIs_of_head (g := 1) (t := 48) (e := 41) (n := 20) (by kernel_rfl) (by kernel_rfl) Tryd.underlying48 Tryd.underlying41 (by kernel_rfl) (by kernel_rfl) hL.tail.tail
  clear hL
  have hsz := hsz0
  have hval : ∀ (j : Nat) t v, Tryd.f4.params[j]? = some t → args[j]? = some v → Value.okWide Tryd.prog W .any base t v := hval0
  have hW' := hW
  obtain ⟨p, q, hA0, hV, rfl, hfz, hnd⟩ := hW
  have hA : DataW.TrodAll enc Tryd.prog W 0 (fun _ => true) true Tryd.f4.params.toList args.toList ds p := hA0
  rw [Tryd.params4] at hA hval hsz
  obtain ⟨v0, vs0, d0, ds0, p0, q0, hargs, rfl, rfl, h0, r0⟩ := trodAll_cons hA
  obtain ⟨rfl, rfl, rfl⟩ := trodAll_nil r0
  obtain rfl : args = #[v0] := Array.toList_inj.1 hargs
  obtain ⟨rfl, rfl⟩ := trodVars_none hV
  obtain ⟨a0_0, a0_1, a0_2, a0_3, a0_4, a0_5, a0_6, a0_7, rfl, w0_1, w0_2, w0_3, w0_4, w0_5, w0_6, w0_7⟩ := open_struct23 (hval 0 23 v0 rfl rfl)
  have k0 := h0
  have lt0 : ∀ x ∈ p0, x.block < W.heap.size := by obtain ⟨m, hm⟩ := k0; exact DataW.trod_lt m _ _ _ hm
  clear hA0 hval0 hsz0 hsz
  obtain ⟨k, h⟩ := Pure.FnIntervalSign a0_0 a0_1 a0_2 a0_3 a0_4 a0_5 a0_6 a0_7 w0_1 w0_2 w0_3 w0_4 w0_5 w0_6 w0_7
  refine (ZP.laws_FnIntervalSign.calls k a0_0 a0_1 a0_2 a0_3 a0_4 a0_5 a0_6 a0_7 true W  h htab).mono fun e W' ⟨he, bel⟩ => ?_
  subst he
  exact ⟨_, rfl, _, _, _, [], _, [], hW', trodAll_mk1 (shut_bool Tryd.underlying4 _), (trodAll_cons_mk (Below.trod laidOut (by kernel_rfl) (of_decide_eq_true (by kernel_rfl)) k0 bel lt0) trodAll_mk0), rfl, bel.frame _, fun h => by cases h⟩
set_option maxRecDepth 100000 in
theorem lifted (os : Os) (started : os.Started) (H : Type) (enc : TypeId × Value → H) (F : Stop.Interp) :
    ReturnsInHanded {} Tryd.checked os 4 .any ((OpenSpec.ofChange Rows.fnIntervalSignSpec).preRow enc Tryd.prog Tryd.f4 Rows.fnIntervalSignRow.domain false Rows.fnIntervalSignRow.laid) (((OpenSpec.ofChange Rows.fnIntervalSignSpec).at F).post enc Tryd.prog Tryd.f4 false true false false) := by
  obtain ⟨places, hx⟩ := reads os enc
  refine returnsInHanded_of_row (C := Tryd.checked) (s := OpenSpec.ofChange Rows.fnIntervalSignSpec) own started (by kernel_rfl) Tryd.func4
    (witness_row_atRef (enc := enc) (C := Tryd.checked) false (World.doorLaid Tryd.prog 400 os) #[.agg #[.bool false, .int .i64 0, .int .i64 0, .int .i64 0, .int .i64 0, .int .i64 0, .int .i64 0, .int .i64 0]] rfl (by kernel_rfl) (by kernel_rfl) (by kernel_rfl)
      (OpenSpec.preRow_of_cond 8 hx (by kernel_rfl) (fun k hk => by cases hk) (by kernel_rfl) (door_met os _))) ?_
  intro W base args ds gs before hval hW _ _ hsz hL _ _
  exact contract H enc W base args ds gs before hval hW hsz hL
theorem said : Rows.FnIntervalSignSaid :=
  OpenClaim.holds_of_cond 4 Tryd.f4 rfl rfl rfl rfl rfl rfl rfl ⟨rfl, rfl, rfl, rfl, rfl⟩ rfl rfl rfl rfl rfl (by kernel_rfl) Tryd.func4 (by kernel_rfl)
    (of_decide_eq_true (by kernel_rfl)) (by unfold Func.isWrapper; first | (rw [if_pos (by decide +kernel)]; kernel_rfl) | (rw [if_neg (by decide +kernel)]; exact ⟨rfl, rfl⟩))
    (fun os started H enc _ F => by rw [OpenClaim.pre_eq_preRow]; exact lifted os started H enc F)
theorem plain (f : FuncId) (fn : Func) (hf : Tryd.pinned.checked.prog.funcNamed "pub-dodona/laws.FnIntervalSign" = some f) (hfn : Tryd.pinned.checked.prog.funcs[f]? = some fn) :
    false = Tryd.pinned.checked.prog.looks [] ∧ ∀ (j : Nat) t, fn.params[j]? = some t → Tryd.pinned.checked.prog.wantsStandIn t = false := by
  obtain rfl : f = 4 := Option.some.inj ((show Tryd.prog.funcNamed "pub-dodona/laws.FnIntervalSign" = some 4 by kernel_rfl).symm.trans hf) |>.symm
  obtain rfl : fn = Tryd.f4 := (Option.some.inj (Tryd.func4.symm.trans hfn)).symm
  refine ⟨by kernel_rfl, fun j t ht => ?_⟩
  rw [Tryd.params4] at ht
  have hm : t ∈ [23] := by simpa using Array.mem_of_getElem? ht
  have hall : ([23].all fun u => !Tryd.prog.wantsStandIn u) = true := by kernel_rfl
  exact (show Tryd.prog.wantsStandIn t = false by simpa using List.all_eq_true.1 hall t hm)
theorem card : Rows.FnIntervalSignCardSaid :=
  Claim7.holds_tied_plain_at .later [] _ _ _ _ said (fun _ h => by cases h) (by kernel_rfl) (fun _ h => by cases h) fnIntervalSign_row_tie rfl ⟨rfl, rfl⟩ (by kernel_rfl) rfl plain (by kernel_rfl)
end Go.Proofs.YtinggdcfhlbahaaDoor.fnIntervalSign
namespace Go.Proofs.YtinggdcfhlbahaaDoor
/-- The card, under a short name, for the claim. -/
theorem fnIntervalSign_holds : Rows.FnIntervalSignCardSaid := fnIntervalSign.card
#print axioms fnIntervalSign_holds
end Go.Proofs.YtinggdcfhlbahaaDoor
