/- The law FnPacketStream: its contract, out of its walk. -/
import Derived.Test.YtpacjdlgnoiheaaDoorSw
namespace Go.Proofs.YtpacjdlgnoiheaaDoor.X
open Go Go.RowKit Go.Proofs.YtpacjdlgnoiheaaDoorW.PrintWords Go.Proofs.YtpacjdlgnoiheaaDoorW.PrintLast Go.Proofs.YtpacjdlgnoiheaaDoorW.PrintMore
set_option linter.unusedVariables false
theorem fits_some (ls : List (List Int)) (hl : ls.length ≤ 2147483647) : ∀ (k i : Nat), i ≤ ls.length → ls.length - i < k → ∃ r, ZS.laws_zzFits9.l0 k ls (ls.length : Int) (i : Int) = some r := by
  intro k
  induction k with
  | zero => intro i _ h; omega
  | succ k ih =>
    intro i hi hk
    simp only [ZS.laws_zzFits9.l0]
    by_cases hlt : i < ls.length
    · rw [if_pos (by omega), if_pos (by omega), if_pos (by omega), show wrap64 ((i : Int) + 1) = ((i + 1 : Nat) : Int) from by unfold wrap64; omega]
      split
      · exact ⟨_, rfl⟩
      · exact ih (i + 1) (by omega) (by omega)
    · rw [if_neg (by omega)]
      exact ⟨_, rfl⟩
theorem fits9 (ls : List (List Int)) : ∃ k r, ZS.laws_zzFits9.f k ls = some r := by
  refine ⟨ls.length + 1, ?_⟩
  unfold ZS.laws_zzFits9.f
  by_cases h : (ls.length : Int) > 2147483647
  · rw [if_pos h]; exact ⟨_, rfl⟩
  · rw [if_neg h]
    exact fits_some ls (by omega) (ls.length + 1) 0 (by omega) (by omega)
def laws_FnPacketStream.f (a0 a1 a2 a3 a4 a5 a6 a7 a8 : Int) (a9 : Bool) (ls : List (List Int)) : Option Bool := if ∀ d ∈ ls, Byt d then some true else none
set_option maxRecDepth 100000 in
set_option maxHeartbeats 4000000 in
theorem laws_FnPacketStream.calls (a0 a1 a2 a3 a4 a5 a6 a7 a8 : Int) (a9 : Bool) (A1 : Option Addr) (c1 : Nat) (ls : List (List Int)) (r : Bool) (w : World) (hr : Kd.C (Kd.slice 5 (Kd.int .u8)) w A1 ls.length ls) (hc : ls.length ≤ c1) (h : laws_FnPacketStream.f a0 a1 a2 a3 a4 a5 a6 a7 a8 a9 ls = some r) :
    Calls Tryd.prog 5 #[.agg #[.int .u16 a0, .int .u16 a1, .int .u16 a2, .int .u16 a3, .int .u16 a4, .int .u8 a5, .int .u8 a6, .int .u32 a7, .int .u32 a8, .bool a9], .slice A1 ls.length c1] w fun e w' => e = .returned (.bool r) ∧ Below w.heap.size w w' := by
  unfold laws_FnPacketStream.f at h
  split at h
  · rename_i hb
    obtain rfl := Option.some.inj h
    clear h
    obtain ⟨k, b, hz⟩ := fits9 ls
    cases b
    · have hZ : Hid (∀ W, Below w.heap.size w W → Calls Tryd.prog 18 #[.slice A1 ls.length c1] W fun e w' => e = .returned (.bool false) ∧ Drawn0 W w') := Lib.hid fun W hW => ZS.laws_zzFits9.calls k A1 c1 ls false W (Kd.C_below hr hW) hc hz
      have HA0 : Hid (Below w.heap.size w (w.alloc (ctxO a0 a1 a2 a3 a4 a5 a6 a7 a8 a9))) := Lib.hid ((Below.refl _ _).alloc (Nat.le_refl _) _)
      clear hr hz hb
      go_enter Tryd.func5, Tryd.ntmps5
      go_wp2_with (go_at_call 18; (with_reducible refine (hZ.out _ HA0.out).mono ?_); rintro e w1 ⟨rfl, n1, rfl⟩)
      go_ret
      exact ⟨rfl, bl_trans HA0.out (bl_drewN _ n1)⟩
    · by_cases h12 : ls.length ≤ 12
      · exact stream_main k a0 a1 a2 a3 a4 a5 a6 a7 a8 a9 A1 c1 ls w hr hc hb h12 hz
      · have hZ : Hid (∀ W, Below w.heap.size w W → Calls Tryd.prog 18 #[.slice A1 ls.length c1] W fun e w' => e = .returned (.bool true) ∧ Drawn0 W w') := Lib.hid fun W hW => ZS.laws_zzFits9.calls k A1 c1 ls true W (Kd.C_below hr hW) hc hz
        have t12 : decide ((ls.length : Int) > 12) = true := by simp; omega
        have HA0 : Hid (Below w.heap.size w (w.alloc (ctxO a0 a1 a2 a3 a4 a5 a6 a7 a8 a9))) := Lib.hid ((Below.refl _ _).alloc (Nat.le_refl _) _)
        clear hr hz hb h12
        go_enter Tryd.func5, Tryd.ntmps5
        go_wp2_with (first | (go_at_call 18; (with_reducible refine (hZ.out _ HA0.out).mono ?_); rintro e w1 ⟨rfl, n1, rfl⟩) | (go_at_call 9; (with_reducible refine (laws_packetAwake.calls true _ rfl).mono ?_); rintro e w4 ⟨rfl, hb4⟩))
        go_ret
        exact ⟨rfl, bl_trans (bl_trans HA0.out (bl_drewN _ n1)) hb4⟩
  · cases h
end Go.Proofs.YtpacjdlgnoiheaaDoor.X
namespace Go.Proofs.YtpacjdlgnoiheaaDoor.Pure
set_option linter.unusedVariables false in
theorem FnPacketStream (a0 a1 a2 a3 a4 a5 a6 a7 a8 : Int) (a9 : Bool) (w0 : (Lit.int .u16 a0).wf = true) (w1 : (Lit.int .u16 a1).wf = true) (w2 : (Lit.int .u16 a2).wf = true) (w3 : (Lit.int .u16 a3).wf = true) (w4 : (Lit.int .u16 a4).wf = true) (w5 : (Lit.int .u8 a5).wf = true) (w6 : (Lit.int .u8 a6).wf = true) (w7 : (Lit.int .u32 a7).wf = true) (w8 : (Lit.int .u32 a8).wf = true)
    (ls : List (List Int)) (hw : ∀ l ∈ ls, ∀ n ∈ l, (Lit.int .u8 n).wf = true) : X.laws_FnPacketStream.f a0 a1 a2 a3 a4 a5 a6 a7 a8 a9 ls = some true := by
  have hb : ∀ d ∈ ls, X.Byt d := fun d hd x hx => by
    have := hw d hd x hx
    simp only [Lit.wf, Bool.and_eq_true, decide_eq_true_eq] at this
    exact this
  unfold X.laws_FnPacketStream.f
  rw [if_pos hb]
end Go.Proofs.YtpacjdlgnoiheaaDoor.Pure
