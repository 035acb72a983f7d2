/- The law FnUrlOption: its row, out of its pure law and of what its walk tells; then the card over the given tie. -/
import Derived.Test.YtipkpgmgjdfgoaaDoorCards
import Derived.Test.YtipkpgmgjdfgoaaDoorTie
import Derived.Test.YtipkpgmgjdfgoaaDoorWSized
import Derived.Test.YtipkpgmgjdfgoaaDoorUv
import Derived.Test.YtipkpgmgjdfgoaaDoorUv
import Derived.WalkKit
import Derived.ProofKit
import Derived.OpenShut
import Derived.ShutString
import Derived.ChangeOld
import Derived.Below
import Derived.SizedLaws
import Derived.Carry
import Derived.Stop.LaidErr
import Derived.Deep.DeepHandedRow
import Derived.Deep.DeepWitnessRowRef
import Derived.LaidMore
import Derived.SevenTiedAt
import Derived.Lay
namespace Go.Proofs.YtipkpgmgjdfgoaaDoor.fnUrlOption
open Go Go.ChangeShapes Go.WideShapes Go.ChangeAt Go.RowKit Go.Proofs.YtipkpgmgjdfgoaaDoorW.PrintWords
open Go.ChangeMaps (open_string shut_string)
set_option linter.unusedVariables false
set_option linter.constructorNameAsVariable false
theorem own : ownKnob Tryd.prog.godebug = none := by kernel_rfl
theorem laidOut : laidOutB Tryd.prog = true := by kernel_rfl
theorem door_met (os : Os) (args : Array Value) : laidMet Tryd.prog Rows.fnUrlOptionRow.laid ((World.laidAll Tryd.prog os Rows.fnUrlOptionRow.laid).forCall (fun _ _ => 0) ⟨#[], args, []⟩).memory :=
  laidMet_laidAll args (by kernel_rfl) (by kernel_rfl)
theorem witness_row_shaped {H : Type} {enc : TypeId × Value → H} {C : Checked} {os : Os} {f : FuncId} {fn : Func} {s : OpenSpec} {conds : List PathCond} {apart : Bool} {laid : List (String × DataW Unit)} (modest : Bool) (w0 : World) (args : Array Value) (hos : w0.os = os)
    (hsh : (w0.forCall (fun _ _ => 0) ⟨#[], args, []⟩).Shaped C.prog) (hok : Input.okWideB C.prog (w0.forCall (fun _ _ => 0) ⟨#[], args, []⟩) f ⟨#[], args, []⟩ = true)
    (hrow : s.preRow enc C.prog fn conds apart laid (w0.forCall (fun _ _ => 0) ⟨#[], args, []⟩).memory args) :
    ∃ (w : World) (tape : Tape) (i : Input), w.os = os ∧ (w.forCall tape i).Shaped C.prog ∧ i.vars = [] ∧ Input.okWide C.prog (w.forCall tape i) .any w.heap.size f i ∧
      s.preRow enc C.prog fn conds apart laid (w.forCall tape i).memory i.args ∧ ({ modest := modest } : Assume).holds C.prog (lone (Frame.enter C.prog f i.args .normal) [] (w.forCall tape i)) :=
  ⟨w0, fun _ _ => 0, ⟨#[], args, []⟩, hos, hsh, (Input.okWide_of_okWideB (base := 0) hok).1, (Input.okWide_of_okWideB hok).2, hrow, by
    simp only [Assume.holds]
    exact ⟨by simp, by simp, fun _ => Modest.zero, by simp, by simp⟩⟩
theorem reads (os : Os) {H : Type} (enc : TypeId × Value → H) : ∃ places, DataW.whole enc Tryd.prog ((World.laidAll Tryd.prog os Rows.fnUrlOptionRow.laid).forCall (fun _ _ => 0) ⟨#[], #[.string ByteArray.empty, .string ByteArray.empty, .string ByteArray.empty, .agg #[.string ByteArray.empty, .string ByteArray.empty]], []⟩).memory Tryd.f10.params.toList Rows.fnUrlOptionSpec.vars false (#[.string ByteArray.empty, .string ByteArray.empty, .string ByteArray.empty, .agg #[.string ByteArray.empty, .string ByteArray.empty]] : Array Value).toList 8 = some ([.lit (.string []), .lit (.string []), .lit (.string []), .agg [.lit (.string []), .lit (.string [])]], [], places) :=
  ⟨[], by kernel_rfl⟩
theorem cell_int {W : World} {base : Nat} {k : IntKind} {t : TypeId} {v : Value} (ht : Tryd.prog.underlying t = some (.int k)) (h : Cell.okWide Tryd.prog W .any base t v) : ∃ n, v = .int k n ∧ (Lit.int k n).wf = true := by
  simp only [Cell.okWide, ht] at h
  cases v <;> simp_all [Cell.ok, Lit.wf, IntKind.has]
theorem cell_string {W : World} {base : Nat} {t : TypeId} {v : Value} (ht : Tryd.prog.underlying t = some .string) (h : Cell.okWide Tryd.prog W .any base t v) : ∃ s : ByteArray, v = .string s ∧ (s.size : Int) ≤ IntKind.i64.max := by
  simp only [Cell.okWide, ht] at h
  cases v <;> simp_all [Cell.ok]
theorem cell_bool {W : World} {base : Nat} {t : TypeId} {v : Value} (ht : Tryd.prog.underlying t = some .bool) (h : Cell.okWide Tryd.prog W .any base t v) : ∃ b, v = .bool b := by
  simp only [Cell.okWide, ht] at h
  cases v <;> simp_all [Cell.ok]
attribute [local irreducible] Cell.okWide
theorem cell_at {W : World} {base : Nat} {ts : List TypeId} {cs : Array Value} (hc : ∀ (i : Nat) v, cs[i]? = some v → ∃ u, ts[i % ts.length]? = some u ∧ Cell.okWide Tryd.prog W .any base u v) (i : Nat) (u : TypeId) (v : Value) (hi : cs[i]? = some v) (hu : ts[i % ts.length]? = some u) : Cell.okWide Tryd.prog W .any base u v := by
  obtain ⟨u', h1, h2⟩ := hc i v hi
  have e : u = u' := Option.some.inj (hu.symm.trans h1)
  rw [e]; exact h2
theorem open_struct50 {W : World} {base : Nat} {v : Value} (h : Value.okWide Tryd.prog W .any base 50 v) : ∃ (a0 : ByteArray) (a1 : ByteArray), v = .agg #[.string a0, .string a1] ∧ (a0.size : Int) ≤ IntKind.i64.max ∧ (a1.size : Int) ≤ IntKind.i64.max := by
  simp only [Value.okWide, Tryd.underlying50] at h
  obtain ⟨cs, rfl, hsz, ts, hts, _, hc⟩ := h
  have e : Tryd.prog.cellTypes Tryd.prog.depth 50 = some [9, 9] := by kernel_rfl
  obtain rfl := Option.some.inj (e.symm.trans hts)
  have en : Tryd.prog.cellsOf 50 = 2 := by kernel_rfl
  rw [en] at hsz
  obtain ⟨l⟩ := cs
  match l, hsz with
  | [x0, x1], _ =>
    obtain ⟨n0, rfl, w0⟩ := cell_string Tryd.underlying9 (cell_at hc 0 9 x0 rfl rfl)
    obtain ⟨n1, rfl, w1⟩ := cell_string Tryd.underlying9 (cell_at hc 1 9 x1 rfl rfl)
    exact ⟨n0, n1, rfl, w0, w1⟩
set_option maxRecDepth 100000 in
theorem contract (H : Type) (enc : TypeId × Value → H) (W : World) (base : Nat) (args : Array Value) (ds gs : List (DataW H)) (before : List MemPlace)
    (hval0 : ∀ (j : Nat) t v, Tryd.f10.params[j]? = some t → args[j]? = some v → Value.okWide Tryd.prog W .any base t v)
    (hW : DataW.Whole enc Tryd.prog Tryd.f10.params.toList Rows.fnUrlOptionSpec.vars false W args.toList ds gs before)
    (hsz0 : (DataW.weightsEach Tryd.prog (Tryd.f10.params.toList ++ Rows.fnUrlOptionSpec.plain.varTypes Tryd.prog) (ds ++ gs)).all (· ≤ reachBytes) = true) (hL : laidMet Tryd.prog Rows.fnUrlOptionRow.laid W) :
    Calls Tryd.prog 10 args W fun e W' => ∃ v, e = .returned v ∧ Rows.fnUrlOptionSpec.post enc Tryd.prog Tryd.f10 false true false false W args v W' := by
  have htab : X.TabA W := ⟨⟨Lib.tabIs_of_head (g := 6) (t := 146) (e := 119) (n := 20) (by kernel_rfl) (by kernel_rfl) Tryd.underlying146 Tryd.underlying119 (by kernel_rfl) (by kernel_rfl) hL.tail.tail, Lib.tabIs_of_head (g := 7) (t := 150) (e := 105) (n := 256) (by kernel_rfl) (by kernel_rfl) Tryd.underlying150 Tryd.underlying105 (by kernel_rfl) (by kernel_rfl) hL.tail.tail.tail.tail.tail.tail⟩, Lib.tabIs_of_head (g := 0) (t := 108) (e := 5) (n := 256) (by kernel_rfl) (by kernel_rfl) Tryd.underlying108 Tryd.underlying5 (by kernel_rfl) (by kernel_rfl) hL.tail.tail.tail.tail.tail⟩
  clear hL
  have hsz := hsz0
  have hval : ∀ (j : Nat) t v, Tryd.f10.params[j]? = some t → args[j]? = some v → Value.okWide Tryd.prog W .any base t v := hval0
  have hW' := hW
  obtain ⟨p, q, hA0, hV, rfl, hfz, hnd⟩ := hW
  have hA : DataW.TrodAll enc Tryd.prog W 0 (fun _ => true) true Tryd.f10.params.toList args.toList ds p := hA0
  rw [Tryd.params10] at hA hval hsz
  obtain ⟨v0, vs0, d0, ds0, p0, q0, hargs, rfl, rfl, h0, r0⟩ := trodAll_cons hA
  obtain ⟨v1, vs1, d1, ds1, p1, q1, rfl, rfl, rfl, h1, r1⟩ := trodAll_cons r0
  obtain ⟨v2, vs2, d2, ds2, p2, q2, rfl, rfl, rfl, h2, r2⟩ := trodAll_cons r1
  obtain ⟨v3, vs3, d3, ds3, p3, q3, rfl, rfl, rfl, h3, r3⟩ := trodAll_cons r2
  obtain ⟨rfl, rfl, rfl⟩ := trodAll_nil r3
  obtain rfl : args = #[v0, v1, v2, v3] := Array.toList_inj.1 hargs
  obtain ⟨rfl, rfl⟩ := trodVars_none hV
  obtain ⟨a0, rfl, rfl, rfl, y0⟩ := open_string Tryd.underlying9 (hval 0 9 v0 rfl rfl) h0
  have w0 : a0.size ≤ 140737488351232 := by
    have z := sized_string hsz (j := 0) (t := 9) rfl rfl
    rw [Array.length_toList] at z
    exact z
  obtain ⟨a1, rfl, rfl, rfl, y1⟩ := open_string Tryd.underlying9 (hval 1 9 v1 rfl rfl) h1
  have w1 : a1.size ≤ 140737488351232 := by
    have z := sized_string hsz (j := 1) (t := 9) rfl rfl
    rw [Array.length_toList] at z
    exact z
  obtain ⟨a2, rfl, rfl, rfl, y2⟩ := open_string Tryd.underlying9 (hval 2 9 v2 rfl rfl) h2
  have w2 : a2.size ≤ 140737488351232 := by
    have z := sized_string hsz (j := 2) (t := 9) rfl rfl
    rw [Array.length_toList] at z
    exact z
  obtain ⟨a3_0, a3_1, rfl, w3_0, w3_1⟩ := open_struct50 (hval 3 50 v3 rfl rfl)
  have k3 := h3
  have lt3 : ∀ x ∈ p3, x.block < W.heap.size := by obtain ⟨m, hm⟩ := k3; exact DataW.trod_lt m _ _ _ hm
  clear hA0 hval0 hsz0 hsz
  have h := Pure.FnUrlOption a0 w0 a1 w1 a2 w2 a3_0 a3_1 w3_0 w3_1
  refine (X.laws_FnUrlOption.calls a0 a1 a2 a3_0 a3_1 true W  h htab).mono fun e W' ⟨he, bel⟩ => ?_
  subst he
  exact ⟨_, rfl, _, _, _, [], _, [], hW', trodAll_mk1 (shut_bool Tryd.underlying4 _), (trodAll_cons_mk (shut_string Tryd.underlying9 y0) (trodAll_cons_mk (shut_string Tryd.underlying9 y1) (trodAll_cons_mk (shut_string Tryd.underlying9 y2) (trodAll_cons_mk (Below.trod laidOut (by kernel_rfl) (of_decide_eq_true (by kernel_rfl)) k3 bel lt3) trodAll_mk0)))), rfl, bel.frame _, fun h => by cases h⟩
set_option maxRecDepth 100000 in
theorem lifted (os : Os) (started : os.Started) (H : Type) (enc : TypeId × Value → H) (F : Stop.Interp) :
    ReturnsInHanded {} Tryd.checked os 10 .any ((OpenSpec.ofChange Rows.fnUrlOptionSpec).preRow enc Tryd.prog Tryd.f10 Rows.fnUrlOptionRow.domain false Rows.fnUrlOptionRow.laid) (((OpenSpec.ofChange Rows.fnUrlOptionSpec).at F).post enc Tryd.prog Tryd.f10 false true false false) := by
  obtain ⟨places, hx⟩ := reads os enc
  refine returnsInHanded_of_row (C := Tryd.checked) (s := OpenSpec.ofChange Rows.fnUrlOptionSpec) own started (by kernel_rfl) Tryd.func10
    (witness_row_shaped (enc := enc) (C := Tryd.checked) false (World.laidAll Tryd.prog os Rows.fnUrlOptionRow.laid) #[.string ByteArray.empty, .string ByteArray.empty, .string ByteArray.empty, .agg #[.string ByteArray.empty, .string ByteArray.empty]] (World.laidAll_os _ _ _) (World.shaped_of_ZipB (by kernel_rfl) (by kernel_rfl)) (by kernel_rfl)
      (OpenSpec.preRow_of_cond 8 hx (by kernel_rfl) (fun k hk => by cases hk) (by kernel_rfl) (door_met os _))) ?_
  intro W base args ds gs before hval hW _ _ hsz hL _ _
  exact contract H enc W base args ds gs before hval hW hsz hL
theorem said : Rows.FnUrlOptionSaid :=
  OpenClaim.holds_of_cond 10 Tryd.f10 rfl rfl rfl rfl rfl rfl rfl ⟨rfl, rfl, rfl, rfl, rfl⟩ rfl rfl rfl rfl rfl (by kernel_rfl) Tryd.func10 (by kernel_rfl)
    (of_decide_eq_true (by kernel_rfl)) (by unfold Func.isWrapper; first | (rw [if_pos (by decide +kernel)]; kernel_rfl) | (rw [if_neg (by decide +kernel)]; exact ⟨rfl, rfl⟩))
    (fun os started H enc _ F => by rw [OpenClaim.pre_eq_preRow]; exact lifted os started H enc F)
theorem plain (f : FuncId) (fn : Func) (hf : Tryd.pinned.checked.prog.funcNamed "pub-dodona/laws.FnUrlOption" = some f) (hfn : Tryd.pinned.checked.prog.funcs[f]? = some fn) :
    false = Tryd.pinned.checked.prog.looks [] ∧ ∀ (j : Nat) t, fn.params[j]? = some t → Tryd.pinned.checked.prog.wantsStandIn t = false := by
  obtain rfl : f = 10 := Option.some.inj ((show Tryd.prog.funcNamed "pub-dodona/laws.FnUrlOption" = some 10 by kernel_rfl).symm.trans hf) |>.symm
  obtain rfl : fn = Tryd.f10 := (Option.some.inj (Tryd.func10.symm.trans hfn)).symm
  refine ⟨by kernel_rfl, fun j t ht => ?_⟩
  rw [Tryd.params10] at ht
  have hm : t ∈ [9, 9, 9, 50] := by simpa using Array.mem_of_getElem? ht
  have hall : ([9, 9, 9, 50].all fun u => !Tryd.prog.wantsStandIn u) = true := by kernel_rfl
  exact (show Tryd.prog.wantsStandIn t = false by simpa using List.all_eq_true.1 hall t hm)
theorem card : Rows.FnUrlOptionCardSaid :=
  Claim7.holds_tied_plain_at .later [] _ _ _ _ said (fun _ h => by cases h) (by kernel_rfl) (fun _ h => by cases h) fnUrlOption_row_tie rfl ⟨rfl, rfl⟩ (by kernel_rfl) rfl plain (by kernel_rfl)
end Go.Proofs.YtipkpgmgjdfgoaaDoor.fnUrlOption
namespace Go.Proofs.YtipkpgmgjdfgoaaDoor
/-- The card, under a short name, for the claim. -/
theorem fnUrlOption_holds : Rows.FnUrlOptionCardSaid := fnUrlOption.card
#print axioms fnUrlOption_holds
end Go.Proofs.YtipkpgmgjdfgoaaDoor
