/- FnSessionPut: what is written stands as the wire has it. -/
import Derived.Test.YtdnahdddkagfhaaDoorQb
import Derived.Test.YtdnahdddkagfhaaDoorQd
import Derived.Test.YtdnahdddkagfhaaDoorQo
import Derived.Test.YtdnahdddkagfhaaDoorCy
namespace Go.Proofs.YtdnahdddkagfhaaDoor.X
open Go.RowKit Go.Proofs.YtdnahdddkagfhaaDoorW.PrintWords Go.Proofs.YtdnahdddkagfhaaDoorW.PrintLast Go.Proofs.YtdnahdddkagfhaaDoorW.PrintMore
attribute [local go_sem] setCell_drewN alloc_drewN
set_option linter.unusedVariables false
set_option linter.unusedSimpArgs false
namespace Ses
theorem lit8 {x : Int} (h : (Lit.int .u8 x).wf = true) : 0 ≤ x ∧ x ≤ 255 := by
  simp only [Lit.wf, Bool.and_eq_true, decide_eq_true_eq] at h
  exact h
theorem lit64 {x : Int} (h : (Lit.int .u64 x).wf = true) : 0 ≤ x ∧ x ≤ 18446744073709551615 := by
  simp only [Lit.wf, Bool.and_eq_true, decide_eq_true_eq] at h
  exact h
theorem spok {p : SP} (h : p.wf) (hl : Long p = false) : SPok p := by
  obtain ⟨h1, h2, h3, h4, -, -⟩ := h
  simp only [Long, Bool.or_eq_false_iff, decide_eq_false_iff_not] at hl
  have a := lit8 h1
  have b := lit8 h2
  have c := lit64 h3
  exact ⟨a.1, a.2, b.1, b.2, c.1, by omega, by omega, by omega⟩
theorem okn_conv (s k n : Int) (s0 : 0 ≤ s) (n0 : 0 ≤ n) (n1 : n < 18446744073709551616) : OkN (numOf k s n) (szOf s) := by
  unfold OkN numOf szOf
  have h4 : s % 4 = 0 ∨ s % 4 = 1 ∨ s % 4 = 2 ∨ s % 4 = 3 := by omega
  rcases h4 with h | h | h | h <;> simp [h] <;> split <;> omega
theorem okp2_conv {p : SP} (h : SPok p) (hf : 0 ≤ p.flag ∧ p.flag ≤ 255) : OkP2 (conv p) := by
  have hr := numOf_range (k := p.kind) (s := p.size) h.n0 h.n1
  have ho := okn_conv p.size p.kind p.num h.s0 h.n0 h.n1
  refine ⟨⟨by have := h.data; show p.data.length ≤ 3000; omega, by have := h.other; show p.other.length ≤ 3000; omega, hf, fun hk => ?_, fun hk => ?_⟩, h.data, h.other⟩
  · have hk' : p.kind % 6 = 2 := hk
    simp only [conv, if_pos hk']
    exact ⟨ho, hr.2.2 hk'⟩
  · have hk' : p.kind % 6 = 3 := hk
    simp only [conv, if_pos hk']
    exact ho
end Ses
noncomputable def laws_FnSessionPut.f (ps : List Ses.SP) (big : Bool) (k : Int) : Option Bool := open Classical in if (∀ p ∈ ps, p.wf) ∧ 0 ≤ k ∧ k ≤ 255 then some true else none
set_option maxHeartbeats 16000000 in
set_option maxRecDepth 100000 in
theorem laws_FnSessionPut.calls (A0 : Option Addr) (c0 : Nat) (ps : List Ses.SP) (big : Bool) (chunk : Int) (r : Bool) (w : World) (hr0 : Ses.spKd.C w A0 ps.length ps) (hc0 : ps.length ≤ c0) (h : laws_FnSessionPut.f ps big chunk = some r) :
    Calls Tryd.prog 13 #[.slice A0 ps.length c0, .bool big, .int .u8 chunk] w fun e w' => e = .returned (.bool r) ∧ Below w.heap.size w w' := by
  unfold laws_FnSessionPut.f at h
  split at h
  · rename_i hsz
    obtain ⟨hwf, k0, k1⟩ := hsz
    obtain rfl := Option.some.inj h
    clear h
    have HR := Lib.hid hr0
    have HF11 := Lib.hid (fun (W : World) (h : Below w.heap.size w W) => zzFits11_ok ps A0 c0 W (Kd.C_below HR.out h))
    have HFit := Lib.hid (fun (W : World) (h : Below w.heap.size w W) => sessionFits_ok ps A0 c0 W (Kd.C_below HR.out h))
    have HCh := Lib.hid (fun W => sessionChunk_ok chunk W k0 k1)
    have HPuts := Lib.hid (fun (W : World) (h : Below w.heap.size w W) => sessionPuts_ok ps A0 c0 W (Kd.C_below HR.out h))
    have HWf := Lib.hid hwf
    obtain ⟨b1, hb1⟩ : ∃ b, b = (decide ((ps.length : Int) ≤ 2147483647) && ps.all Ses.Fit) := ⟨_, rfl⟩
    obtain ⟨b2, hb2⟩ : ∃ b, b = (decide (ps.length ≤ 20) && !ps.any Ses.Long) := ⟨_, rfl⟩
    rw [← hb1] at HF11
    rw [← hb2] at HFit
    have HB2 := Lib.hid hb2
    clear hr0 hwf hb1 hb2
    obtain ⟨n, hnl⟩ : ∃ n, n = ps.length := ⟨_, rfl⟩
    rw [← hnl] at HF11 HFit HPuts HB2 ⊢
    have HN := Lib.hid hnl
    clear hnl
    cases b1 with
    | false =>
      go_enter Tryd.func13, Tryd.ntmps13
      go_wp2_with (go_at_call 24; (with_reducible refine (HF11.out _ (Below.refl _ _)).mono ?_); rintro e w1 ⟨rfl, hb1⟩; have HB1 := Lib.hid hb1; clear hb1)
      go_ret
      exact ⟨rfl, HB1.out⟩
    | true =>
      cases b2 with
      | false =>
        go_enter Tryd.func13, Tryd.ntmps13
        go_wp2_with (first | (go_at_call 24; (with_reducible refine (HF11.out _ (Below.refl _ _)).mono ?_); rintro e w1 ⟨rfl, hb1⟩; have HB1 := Lib.hid hb1; clear hb1) | (go_at_call 25; (with_reducible refine (HFit.out _ HB1.out).mono ?_); rintro e w2 ⟨rfl, hb2⟩; have HBw2 := Lib.hid (bl_trans HB1.out hb2); clear hb2) | (go_at_call 14; (with_reducible refine (sessionLive_calls _).mono ?_); rintro e w3 ⟨rfl, hb3⟩; have HBw3 := Lib.hid (bl_trans HBw2.out hb3); clear hb3))
        go_ret
        exact ⟨rfl, HBw3.out⟩
      | true =>
        have hb2 := HB2.out.symm
        rw [Bool.and_eq_true, Bool.not_eq_true', decide_eq_true_eq] at hb2
        obtain ⟨hn20, hlong⟩ := hb2
        have hok : ∀ p ∈ ps, Ses.SPok p := fun p hp => Ses.spok (HWf.out p hp) (by
          have := (List.any_eq_false.1 hlong) p hp
          simpa using this)
        have HOk2 : Hid (∀ p ∈ ps.map Ses.conv, Ses.OkP2 p) := Lib.hid (fun p hp => by
          obtain ⟨q, hq, rfl⟩ := List.mem_map.1 hp
          have h4 := Ses.lit8 (HWf.out q hq).2.2.2.1
          exact Ses.okp2_conv (hok q hq) h4)
        have HPuts2 := Lib.hid (fun (W : World) (h : Below w.heap.size w W) => HPuts.out W h hok hn20)
        clear HPuts hlong
        have HN2 : Hid ((ps.map Ses.conv).length = n) := Lib.hid (by rw [List.length_map, ← HN.out])
        obtain ⟨qs, hqs⟩ : ∃ qs, qs = ps.map Ses.conv := ⟨_, rfl⟩
        rw [← hqs] at HPuts2 HOk2 HN2
        obtain ⟨m, hm⟩ : ∃ m : Nat, chunk % 252 + 1 = (m : Int) := ⟨(chunk % 252 + 1).toNat, by omega⟩
        have hm1 : 1 ≤ m := by omega
        have hm2 : m ≤ 252 := by omega
        rw [hm] at HCh
        have HImpl := Lib.hid (fun (W : World) (A : Option Addr) (c : Nat) hC hle => sessionPut_any qs A c big m W hC hle (fun p hp => (HOk2.out p hp).toOkP) (by rw [HN2.out]; omega) hm1 hm2)
        have HSpec := Lib.hid (fun (W : World) (A : Option Addr) (c : Nat) hC => specPut qs A c big m W hC HOk2.out (by rw [HN2.out]; exact hn20) hm1 hm2)
        obtain ⟨enc, henc⟩ : ∃ enc, enc = qs.flatMap (Ses.stepB big m) := ⟨_, rfl⟩
        rw [← henc] at HImpl HSpec
        have hef : bytes_Equal.f enc enc = some true := by simp [bytes_Equal.f]
        have HEq := Lib.hid (fun (W : World) (A : Option Addr) (c : Nat) (B : Option Addr) (d : Nat) h1 h2 h3 h4 => bytes_Equal.calls A c enc B d enc true W h1 h2 h3 h4 hef)
        rw [HN2.out] at HImpl HSpec
        clear hef henc hm hqs hok
        go_enter Tryd.func13, Tryd.ntmps13
        go_wp2_with (first | (go_at_call 24; (with_reducible refine (HF11.out _ (Below.refl _ _)).mono ?_); rintro e w1 ⟨rfl, hb1⟩; have HB1 := Lib.hid hb1; clear hb1) | (go_at_call 25; (with_reducible refine (HFit.out _ HB1.out).mono ?_); rintro e w2 ⟨rfl, hb2⟩; have HBw2 := Lib.hid (bl_trans HB1.out hb2); clear hb2) | (go_at_call 26; (with_reducible refine (HPuts2.out _ HBw2.out).mono ?_); rintro e w3 ⟨v3, rfl, hR3, hb3⟩; obtain ⟨A3, c3, rfl, hle3, hC3⟩ := Kd.R_reads hR3; (rw [HN2.out] at hle3 hC3 ⊢); have HC3 := Lib.hid hC3; have HBw3 := Lib.hid (bl_trans HBw2.out hb3); clear hR3 hC3 hb3) | (go_at_call 15; (with_reducible refine (HCh.out _).mono ?_); rintro e w3 ⟨rfl, rfl⟩) | (go_at_call 16; (with_reducible refine (HImpl.out _ _ _ HC3.out hle3).mono ?_); rintro e w4 ⟨v4, rfl, hR4, hb4⟩; obtain ⟨A4, c4, rfl, hle4, hC4, -, -⟩ := Ses.R_slots hR4; have HC4 := Lib.hid hC4; have HC3' := Lib.hid (Kd.C_below HC3.out hb4); have HBw4 := Lib.hid (bl_trans HBw3.out hb4); clear hR4 hC4 hb4) | (go_at_call 38; (with_reducible refine (HSpec.out _ _ _ HC3'.out).mono ?_); rintro e w5 ⟨v5, rfl, hR5, hb5⟩; obtain ⟨A5, c5, rfl, hle5, hC5, -, -⟩ := Ses.R_slots hR5; have HC5 := Lib.hid hC5; have HC4' := Lib.hid (Kd.C_below HC4.out hb5); have HBw5 := Lib.hid (bl_trans HBw4.out hb5); clear hR5 hC5 hb5) | (go_at_call 19; (with_reducible refine (HEq.out _ _ _ _ _ HC4'.out hle4 HC5.out hle5).mono ?_); rintro e w6 ⟨rfl, n6, rfl⟩) | (go_at_call 14; (with_reducible refine (sessionLive_calls _).mono ?_); rintro e w7 ⟨rfl, hb7⟩; have HB7 := Lib.hid hb7; clear hb7))
        go_ret
        exact ⟨rfl, HBw5.out.trans ((bl_trans (bl_drewN _ _) HB7.out).mono HBw5.out.size)⟩
  · cases h
end Go.Proofs.YtdnahdddkagfhaaDoor.X
