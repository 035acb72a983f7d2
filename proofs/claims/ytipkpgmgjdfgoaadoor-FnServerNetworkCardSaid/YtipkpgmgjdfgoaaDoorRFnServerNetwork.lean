/- The law FnServerNetwork: its row, out of its pure law and of what its walk tells; then the card over the given tie. -/
import Derived.Test.YtipkpgmgjdfgoaaDoorCards
import Derived.Test.YtipkpgmgjdfgoaaDoorTie
import Derived.Test.YtipkpgmgjdfgoaaDoorWSized
import Derived.Test.YtipkpgmgjdfgoaaDoorPureFnServerNetwork
import Derived.Test.YtipkpgmgjdfgoaaDoorZE
import Derived.WalkKit
import Derived.ProofKit
import Derived.OpenShut
import Derived.ShutString
import Derived.ChangeOld
import Derived.Below
import Derived.SizedLaws
import Derived.Carry
import Derived.Stop.LaidErr
import Derived.Deep.DeepHandedRow
import Derived.Deep.DeepWitnessRowRef
import Derived.LaidMore
import Derived.SevenTiedAt
import Derived.Lay
namespace Go.Proofs.YtipkpgmgjdfgoaaDoor.fnServerNetwork
open Go Go.ChangeShapes Go.WideShapes Go.ChangeAt Go.RowKit Go.Proofs.YtipkpgmgjdfgoaaDoorW.PrintWords
open Go.ChangeMaps (open_string shut_string)
set_option linter.unusedVariables false
set_option linter.constructorNameAsVariable false
theorem own : ownKnob Tryd.prog.godebug = none := by kernel_rfl
theorem laidOut : laidOutB Tryd.prog = true := by kernel_rfl
theorem door_met (os : Os) (args : Array Value) : laidMet Tryd.prog Rows.fnServerNetworkRow.laid ((World.laidAll Tryd.prog os Rows.fnServerNetworkRow.laid).forCall (fun _ _ => 0) ⟨#[], args, []⟩).memory :=
  laidMet_laidAll args (by kernel_rfl) (by kernel_rfl)
theorem witness_row_shaped {H : Type} {enc : TypeId × Value → H} {C : Checked} {os : Os} {f : FuncId} {fn : Func} {s : OpenSpec} {conds : List PathCond} {apart : Bool} {laid : List (String × DataW Unit)} (modest : Bool) (w0 : World) (args : Array Value) (hos : w0.os = os)
    (hsh : (w0.forCall (fun _ _ => 0) ⟨#[], args, []⟩).Shaped C.prog) (hok : Input.okWideB C.prog (w0.forCall (fun _ _ => 0) ⟨#[], args, []⟩) f ⟨#[], args, []⟩ = true)
    (hrow : s.preRow enc C.prog fn conds apart laid (w0.forCall (fun _ _ => 0) ⟨#[], args, []⟩).memory args) :
    ∃ (w : World) (tape : Tape) (i : Input), w.os = os ∧ (w.forCall tape i).Shaped C.prog ∧ i.vars = [] ∧ Input.okWide C.prog (w.forCall tape i) .any w.heap.size f i ∧
      s.preRow enc C.prog fn conds apart laid (w.forCall tape i).memory i.args ∧ ({ modest := modest } : Assume).holds C.prog (lone (Frame.enter C.prog f i.args .normal) [] (w.forCall tape i)) :=
  ⟨w0, fun _ _ => 0, ⟨#[], args, []⟩, hos, hsh, (Input.okWide_of_okWideB (base := 0) hok).1, (Input.okWide_of_okWideB hok).2, hrow, by
    simp only [Assume.holds]
    exact ⟨by simp, by simp, fun _ => Modest.zero, by simp, by simp⟩⟩
theorem reads (os : Os) {H : Type} (enc : TypeId × Value → H) : ∃ places, DataW.whole enc Tryd.prog ((World.laidAll Tryd.prog os Rows.fnServerNetworkRow.laid).forCall (fun _ _ => 0) ⟨#[], #[.agg #[.string ByteArray.empty, .string ByteArray.empty, .int .i64 0]], []⟩).memory Tryd.f7.params.toList Rows.fnServerNetworkSpec.vars false (#[.agg #[.string ByteArray.empty, .string ByteArray.empty, .int .i64 0]] : Array Value).toList 8 = some ([.agg [.lit (.string []), .lit (.string []), .lit (.int .i64 0)]], [], places) :=
  ⟨[], by kernel_rfl⟩
theorem cell_int {W : World} {base : Nat} {k : IntKind} {t : TypeId} {v : Value} (ht : Tryd.prog.underlying t = some (.int k)) (h : Cell.okWide Tryd.prog W .any base t v) : ∃ n, v = .int k n ∧ (Lit.int k n).wf = true := by
  simp only [Cell.okWide, ht] at h
  cases v <;> simp_all [Cell.ok, Lit.wf, IntKind.has]
theorem cell_string {W : World} {base : Nat} {t : TypeId} {v : Value} (ht : Tryd.prog.underlying t = some .string) (h : Cell.okWide Tryd.prog W .any base t v) : ∃ s : ByteArray, v = .string s ∧ (s.size : Int) ≤ IntKind.i64.max := by
  simp only [Cell.okWide, ht] at h
  cases v <;> simp_all [Cell.ok]
theorem cell_bool {W : World} {base : Nat} {t : TypeId} {v : Value} (ht : Tryd.prog.underlying t = some .bool) (h : Cell.okWide Tryd.prog W .any base t v) : ∃ b, v = .bool b := by
  simp only [Cell.okWide, ht] at h
  cases v <;> simp_all [Cell.ok]
attribute [local irreducible] Cell.okWide
theorem cell_at {W : World} {base : Nat} {ts : List TypeId} {cs : Array Value} (hc : ∀ (i : Nat) v, cs[i]? = some v → ∃ u, ts[i % ts.length]? = some u ∧ Cell.okWide Tryd.prog W .any base u v) (i : Nat) (u : TypeId) (v : Value) (hi : cs[i]? = some v) (hu : ts[i % ts.length]? = some u) : Cell.okWide Tryd.prog W .any base u v := by
  obtain ⟨u', h1, h2⟩ := hc i v hi
  have e : u = u' := Option.some.inj (hu.symm.trans h1)
  rw [e]; exact h2
theorem open_struct30 {W : World} {base : Nat} {v : Value} (h : Value.okWide Tryd.prog W .any base 30 v) : ∃ (a0 : ByteArray) (a1 : ByteArray) (a2 : Int), v = .agg #[.string a0, .string a1, .int .i64 a2] ∧ (a0.size : Int) ≤ IntKind.i64.max ∧ (a1.size : Int) ≤ IntKind.i64.max ∧ (Lit.int .i64 a2).wf = true := by
  simp only [Value.okWide, Tryd.underlying30] at h
  obtain ⟨cs, rfl, hsz, ts, hts, _, hc⟩ := h
  have e : Tryd.prog.cellTypes Tryd.prog.depth 30 = some [9, 9, 3] := by kernel_rfl
  obtain rfl := Option.some.inj (e.symm.trans hts)
  have en : Tryd.prog.cellsOf 30 = 3 := by kernel_rfl
  rw [en] at hsz
  obtain ⟨l⟩ := cs
  match l, hsz with
  | [x0, x1, x2], _ =>
    obtain ⟨n0, rfl, w0⟩ := cell_string Tryd.underlying9 (cell_at hc 0 9 x0 rfl rfl)
    obtain ⟨n1, rfl, w1⟩ := cell_string Tryd.underlying9 (cell_at hc 1 9 x1 rfl rfl)
    obtain ⟨n2, rfl, w2⟩ := cell_int Tryd.underlying3 (cell_at hc 2 3 x2 rfl rfl)
    exact ⟨n0, n1, n2, rfl, w0, w1, w2⟩
set_option maxRecDepth 100000 in
theorem contract (H : Type) (enc : TypeId × Value → H) (W : World) (base : Nat) (args : Array Value) (ds gs : List (DataW H)) (before : List MemPlace)
    (hval0 : ∀ (j : Nat) t v, Tryd.f7.params[j]? = some t → args[j]? = some v → Value.okWide Tryd.prog W .any base t v)
    (hW : DataW.Whole enc Tryd.prog Tryd.f7.params.toList Rows.fnServerNetworkSpec.vars false W args.toList ds gs before)
    (hsz0 : (DataW.weightsEach Tryd.prog (Tryd.f7.params.toList ++ Rows.fnServerNetworkSpec.plain.varTypes Tryd.prog) (ds ++ gs)).all (· ≤ reachBytes) = true) (hL : laidMet Tryd.prog Rows.fnServerNetworkRow.laid W) :
    Calls Tryd.prog 7 args W fun e W' => ∃ v, e = .returned v ∧ Rows.fnServerNetworkSpec.post enc Tryd.prog Tryd.f7 false true false false W args v W' := by
  have htab : X.Tab W := Lib.tabIs_of_head (g := 6) (t := 146) (e := 119) (n := 20) (by kernel_rfl) (by kernel_rfl) Tryd.underlying146 Tryd.underlying119 (by kernel_rfl) (by kernel_rfl) hL.tail.tail
  clear hL
  have hsz := hsz0
  have hval : ∀ (j : Nat) t v, Tryd.f7.params[j]? = some t → args[j]? = some v → Value.okWide Tryd.prog W .any base t v := hval0
  have hW' := hW
  obtain ⟨p, q, hA0, hV, rfl, hfz, hnd⟩ := hW
  have hA : DataW.TrodAll enc Tryd.prog W 0 (fun _ => true) true Tryd.f7.params.toList args.toList ds p := hA0
  rw [Tryd.params7] at hA hval hsz
  obtain ⟨v0, vs0, d0, ds0, p0, q0, hargs, rfl, rfl, h0, r0⟩ := trodAll_cons hA
  obtain ⟨rfl, rfl, rfl⟩ := trodAll_nil r0
  obtain rfl : args = #[v0] := Array.toList_inj.1 hargs
  obtain ⟨rfl, rfl⟩ := trodVars_none hV
  obtain ⟨a0_0, a0_1, a0_2, rfl, w0_0, w0_1, w0_2⟩ := open_struct30 (hval 0 30 v0 rfl rfl)
  have k0 := h0
  have lt0 : ∀ x ∈ p0, x.block < W.heap.size := by obtain ⟨m, hm⟩ := k0; exact DataW.trod_lt m _ _ _ hm
  clear hA0 hval0 hsz0 hsz
  obtain ⟨k, h⟩ := Pure.FnServerNetwork a0_0 a0_1 a0_2 w0_0 w0_1 w0_2
  refine (ZE.laws_FnServerNetwork.calls k a0_0 a0_1 a0_2 true W  h htab).mono fun e W' ⟨he, bel⟩ => ?_
  subst he
  exact ⟨_, rfl, _, _, _, [], _, [], hW', trodAll_mk1 (shut_bool Tryd.underlying4 _), (trodAll_cons_mk (Below.trod laidOut (by kernel_rfl) (of_decide_eq_true (by kernel_rfl)) k0 bel lt0) trodAll_mk0), rfl, bel.frame _, fun h => by cases h⟩
set_option maxRecDepth 100000 in
theorem lifted (os : Os) (started : os.Started) (H : Type) (enc : TypeId × Value → H) (F : Stop.Interp) :
    ReturnsInHanded {} Tryd.checked os 7 .any ((OpenSpec.ofChange Rows.fnServerNetworkSpec).preRow enc Tryd.prog Tryd.f7 Rows.fnServerNetworkRow.domain false Rows.fnServerNetworkRow.laid) (((OpenSpec.ofChange Rows.fnServerNetworkSpec).at F).post enc Tryd.prog Tryd.f7 false true false false) := by
  obtain ⟨places, hx⟩ := reads os enc
  refine returnsInHanded_of_row (C := Tryd.checked) (s := OpenSpec.ofChange Rows.fnServerNetworkSpec) own started (by kernel_rfl) Tryd.func7
    (witness_row_shaped (enc := enc) (C := Tryd.checked) false (World.laidAll Tryd.prog os Rows.fnServerNetworkRow.laid) #[.agg #[.string ByteArray.empty, .string ByteArray.empty, .int .i64 0]] (World.laidAll_os _ _ _) (World.shaped_of_ZipB (by kernel_rfl) (by kernel_rfl)) (by kernel_rfl)
      (OpenSpec.preRow_of_cond 8 hx (by kernel_rfl) (fun k hk => by cases hk) (by kernel_rfl) (door_met os _))) ?_
  intro W base args ds gs before hval hW _ _ hsz hL _ _
  exact contract H enc W base args ds gs before hval hW hsz hL
theorem said : Rows.FnServerNetworkSaid :=
  OpenClaim.holds_of_cond 7 Tryd.f7 rfl rfl rfl rfl rfl rfl rfl ⟨rfl, rfl, rfl, rfl, rfl⟩ rfl rfl rfl rfl rfl (by kernel_rfl) Tryd.func7 (by kernel_rfl)
    (of_decide_eq_true (by kernel_rfl)) (by unfold Func.isWrapper; first | (rw [if_pos (by decide +kernel)]; kernel_rfl) | (rw [if_neg (by decide +kernel)]; exact ⟨rfl, rfl⟩))
    (fun os started H enc _ F => by rw [OpenClaim.pre_eq_preRow]; exact lifted os started H enc F)
theorem plain (f : FuncId) (fn : Func) (hf : Tryd.pinned.checked.prog.funcNamed "pub-dodona/laws.FnServerNetwork" = some f) (hfn : Tryd.pinned.checked.prog.funcs[f]? = some fn) :
    false = Tryd.pinned.checked.prog.looks [] ∧ ∀ (j : Nat) t, fn.params[j]? = some t → Tryd.pinned.checked.prog.wantsStandIn t = false := by
  obtain rfl : f = 7 := Option.some.inj ((show Tryd.prog.funcNamed "pub-dodona/laws.FnServerNetwork" = some 7 by kernel_rfl).symm.trans hf) |>.symm
  obtain rfl : fn = Tryd.f7 := (Option.some.inj (Tryd.func7.symm.trans hfn)).symm
  refine ⟨by kernel_rfl, fun j t ht => ?_⟩
  rw [Tryd.params7] at ht
  have hm : t ∈ [30] := by simpa using Array.mem_of_getElem? ht
  have hall : ([30].all fun u => !Tryd.prog.wantsStandIn u) = true := by kernel_rfl
  exact (show Tryd.prog.wantsStandIn t = false by simpa using List.all_eq_true.1 hall t hm)
theorem card : Rows.FnServerNetworkCardSaid :=
  Claim7.holds_tied_plain_at .later [] _ _ _ _ said (fun _ h => by cases h) (by kernel_rfl) (fun _ h => by cases h) fnServerNetwork_row_tie rfl ⟨rfl, rfl⟩ (by kernel_rfl) rfl plain (by kernel_rfl)
end Go.Proofs.YtipkpgmgjdfgoaaDoor.fnServerNetwork
namespace Go.Proofs.YtipkpgmgjdfgoaaDoor
/-- The card, under a short name, for the claim. -/
theorem fnServerNetwork_holds : Rows.FnServerNetworkCardSaid := fnServerNetwork.card
#print axioms fnServerNetwork_holds
end Go.Proofs.YtipkpgmgjdfgoaaDoor
