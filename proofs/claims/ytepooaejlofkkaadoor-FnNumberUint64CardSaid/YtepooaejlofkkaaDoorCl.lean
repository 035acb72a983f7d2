/- bytes.Clone, errors.New and binary.BigEndian.Uint32: what each call returns. -/
import Derived.Test.YtepooaejlofkkaaDoorProg
import Derived.Test.YtepooaejlofkkaaDoorKit
namespace Go.Proofs.YtepooaejlofkkaaDoor.X
open Go.RowKit Go.Proofs.YtepooaejlofkkaaDoorW.PrintWords Go.Proofs.YtepooaejlofkkaaDoorW.PrintMore
attribute [local go_sem] setCell_drewN alloc_drewN
set_option linter.unusedVariables false
def Ret (v : Value) (w : World) (e : Ending) (w' : World) : Prop := e = .returned v ∧ Below w.heap.size w w'
theorem info5x : (Tryd.prog.info? 5).map (fun i => (i.zero, i.size, i.bytes)) = some (some (.int .u8 0), 1, 1) := by kernel_rfl
def bytes_Clone.f (l0 : List Int) : Option (List Int) := if l0.length < 140737488355328 then some l0 else none
def RetRow (l : List Int) (w : World) (e : Ending) (w' : World) : Prop := ∃ v : Value, e = .returned v ∧ Kd.R (Kd.int .u8) 5 w' w.heap.size (fun _ => True) v l ∧ Below w.heap.size w w'
set_option maxHeartbeats 400000 in
theorem bytes_Clone.calls (A0 : Option Addr) (c0 : Nat) (l0 : List Int) (r : List Int) (w : World) (hr0 : Kd.C (Kd.int .u8) w A0 l0.length l0) (hc0 : l0.length ≤ c0) (h : bytes_Clone.f l0 = some r) :
    Calls Tryd.prog 27 #[.slice A0 l0.length c0] w fun e w' => ∃ v0_ : Value, e = .returned (v0_) ∧ Kd.R (Kd.int .u8) 5 w' w.heap.size (fun _ => True) v0_ r ∧ Below w.heap.size w w' := by
  show Calls Tryd.prog 27 #[.slice A0 l0.length c0] w (RetRow r w)
  have k1 := @Lib.run_eql_slice_nil Tryd.prog
  unfold bytes_Clone.f at h
  split at h
  · rename_i hlt
    obtain rfl := Option.some.inj h
    have HR0 := Aside0.mk hr0
    clear hr0 h
    cases A0 with
    | none =>
      have hl : l0 = [] := by
        rcases l0 with _ | ⟨x, l⟩
        · rfl
        · obtain ⟨ad, e, _⟩ := HR0.out.2.2 (by simp); cases e
      subst hl
      go_enter Tryd.func27, Tryd.ntmps27
      go_wp2
      go_ret
      exact ⟨_, rfl, Kd.R_nil _ _ _ _ _, Below.refl _ _⟩
    | some ad =>
      go_enter Tryd.func27, Tryd.ntmps27
      go_wp2_with (first | (refine Kd.R_lit (Kd.int .u8) _ 5 ?hg (N := 5) ?hd (xs := ([] : List Int)) (inner := []) (ok := fun _ => True) (okp := fun _ => True) ?hr ?hp (fun _ hk => hk) trivial (Below.refl _ _) (Nat.le_refl _) (by simp) ?_; (case hd => rfl); (case hg => rfl); (case hr => first | (go_simp; done) | (go_simp; rfl)); (case hp => exact (Reps.none _ _)); intro v253 w3 ho4 hb hg_ hnew_; clear hg_ hnew_; have HO := Aside0.mk ho4; have HB := Aside0.mk hb; clear ho4 hb) | (at_builtin; refine Kd.R_append_rows (Kd.int .u8) (w0 := w) w.heap.size rfl (.tmp 5) (.tmp 6) 22 5 (.int .u8 0) 1 rfl Tryd.underlying22 info5x rfl (by decide) (by omega) v253 [] l0 _ _ _ (fun _ => True) (fun _ => False) rfl rfl ?aO ?aR (fun _ _ h => h) (fun _ h => h.elim) ?aF ?aB ?aS ?aL ?_; (case aR => exact (Kd.C_below HR0.out HB.out)); (case aB => exact HB.out); (case aF => exact (fun _ _ => trivial)); (case aO => exact HO.out); (case aS => exact HB.out.size); (case aL => simp only [List.length_nil]; omega); intro v256 w5 ho hb hg hat; have HO2 := Aside0.mk ho; have HB2 := Aside0.mk hb; clear ho hb hg hat))
      go_ret
      exact ⟨_, rfl, HO2.out, HB2.out⟩
  · cases h

end Go.Proofs.YtepooaejlofkkaaDoor.X
