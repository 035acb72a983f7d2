/- DLCs, keys and values of a session where the input ends. -/
import Derived.Test.YtdnahdddkagfhaaDoorRz
namespace Go.Proofs.YtdnahdddkagfhaaDoor.X
open Go.RowKit Go.Proofs.YtdnahdddkagfhaaDoorW.PrintWords Go.Proofs.YtdnahdddkagfhaaDoorW.PrintMore
attribute [local go_sem] setCell_drewN alloc_drewN
set_option linter.unusedVariables false
set_option linter.unusedSimpArgs false
theorem Ses.Ct.trans {b g c : Nat} {l : List Int} {big : Bool} {chunk : Int} {w w1 w2 : World} (h : w.grownBy w1 (some b)) (k : Ses.Ct b g c l big chunk w1 w2) : Ses.Ct b g c l big chunk w w2 := by
  obtain ⟨i, h1, h2, h3⟩ := k
  exact ⟨i, h1, h2, grown_trans h h3⟩
set_option maxHeartbeats 4000000 in
set_option maxRecDepth 100000 in
/-- A DLC that is cut. -/
theorem getDlc_cut (w : World) (b g c : Nat) (l : List Int) (idx : Nat) (big : Bool) (chunk : Int) (tp : TypeId) (a : Addr) (h : Ses.RS w b g c l idx big chunk) (hE : Ses.EE tp a w) (cc : Nat) (d : List Int) (hd2 : d.length ≤ 100000) (hc1 : 1 ≤ cc) (hc2 : cc ≤ 252) (hby : ∀ y ∈ l, 0 ≤ y ∧ y ≤ 255) (hc : Ses.Cut l idx (Dg.dlcB big cc d)) :
    Calls Tryd.prog 72 #[.pointer (some ⟨b, 0, none⟩)] w fun e w' => e = .returned (.tuple #[.slice none 0 0, .iface tp (.pointer (some a))]) ∧ Ses.Ct b g c l big chunk w w' := by
  have hb4 := hE.ne h
  have hend : ∀ n : Int, Ses.Cut l idx (Dg.packed n) → Calls Tryd.prog 72 #[.pointer (some ⟨b, 0, none⟩)] w fun e w' => e = .returned (.tuple #[.slice none 0 0, .iface tp (.pointer (some a))]) ∧ Ses.Ct b g c l big chunk w w' := fun n hn => by
    have HI := Lib.hid (getInt_err w b 4 true true tp a (fun w' => Ses.Ct b g c l big chunk w w') (getInt64_cutPacked w b g c l idx big chunk tp a h hE 4 n true hn))
    clear h hE hn hc
    go_enter Tryd.func72, Tryd.ntmps72
    go_wp2_with (go_at_call 74; (with_reducible refine HI.out.mono ?_); rintro e w1 ⟨rfl, hct⟩; have HCt := Lib.hid hct; clear hct)
    go_ret2
    exact ⟨rfl, HCt.out⟩
  unfold Dg.dlcB at hc
  by_cases h0 : d = []
  · rw [if_pos h0] at hc
    exact hend 0 hc
  · rw [if_neg h0] at hc
    rcases hc.app with hcA | ⟨hp1, hcB⟩
    · exact hend _ hcA
    · clear hend
      have hl : 0 < d.length := List.length_pos_iff.2 h0
      obtain ⟨n, hn⟩ : ∃ n, n = d.length := ⟨_, rfl⟩
      rw [← hn] at hp1 hcB hl
      have HI := Lib.hid (getInt_packed w b g c l idx big true chunk 4 (n : Int) h hp1 (by omega) (by omega) hby)
      obtain ⟨i1, hi1⟩ : ∃ i1, i1 = idx + (Dg.packed (n : Int)).length := ⟨_, rfl⟩
      rw [← hi1] at HI hcB
      have HC := Lib.hid (fun (W : World) (hr : Ses.RS W b g c l i1 big chunk) (hg : w.grownBy W (some b)) => getClr_cut W b g c l i1 big chunk tp a hr (hE.grown hg hb4) cc d hd2 hc1 hc2 hby hcB)
      have t0 : decide ((n : Int) > 0) = true := decide_eq_true (by omega)
      have t1 : decide ((0 : Int) > (n : Int)) = false := decide_eq_false (by omega)
      clear h hE hc hp1 hcB hi1 hd2 hn hb4 h0
      go_enter Tryd.func72, Tryd.ntmps72
      go_wp2_with (first | (go_at_call 74; (with_reducible refine HI.out.mono ?_); rintro e w1 ⟨rfl, hrs, hg⟩; have HRS := Lib.hid hrs; have HG := Lib.hid hg; clear hrs hg) | (go_at_call 70; (with_reducible refine (HC.out _ HRS.out HG.out).mono ?_); rintro e w2 ⟨rfl, hct⟩; have HCt := Lib.hid hct; clear hct))
      go_ret2
      exact ⟨rfl, HCt.out.trans HG.out⟩
set_option maxHeartbeats 8000000 in
set_option maxRecDepth 100000 in
/-- A key and a value that are cut. -/
theorem getKeyVal_cut (w : World) (b g c : Nat) (l : List Int) (idx : Nat) (big : Bool) (chunk : Int) (tp : TypeId) (a : Addr) (h : Ses.RS w b g c l idx big chunk) (hE : Ses.EE tp a w) (cc fl : Nat) (d1 d2 : List Int) (hd1 : d1.length ≤ 100000) (hd2 : d2.length ≤ 100000) (hfl : fl ≤ 255) (hc1 : 1 ≤ cc) (hc2 : cc ≤ 252) (hby : ∀ y ∈ l, 0 ≤ y ∧ y ≤ 255) (hc : Ses.Cut l idx (Dg.dlcB big cc d1 ++ Dg.dlcB big cc d2 ++ Dg.packed (fl : Int))) :
    Calls Tryd.prog 75 #[.pointer (some ⟨b, 0, none⟩)] w fun e w' => (∃ A1 n1 c1 A2 n2 c2, e = .returned (.tuple #[.slice A1 n1 c1, .slice A2 n2 c2, .int .i64 0, .iface tp (.pointer (some a))])) ∧ Ses.Ct b g c l big chunk w w' := by
  have hb4 := hE.ne h
  have HEf := Lib.hid (fun (W : World) (hg : w.grownBy W (some b)) => hE.grown hg hb4)
  rcases hc.app with hc12 | ⟨hp12, hc3⟩
  · rcases hc12.app with hcA | ⟨hp1, hcB⟩
    · have HD1 := Lib.hid (getDlc_cut w b g c l idx big chunk tp a h hE cc d1 hd1 hc1 hc2 hby hcA)
      clear h hE hc hc12 hcA hb4
      go_enter Tryd.func75, Tryd.ntmps75
      go_wp2_with (go_at_call 72; (with_reducible refine HD1.out.mono ?_); rintro e w1 ⟨rfl, hct⟩; have HCt := Lib.hid hct; clear hct)
      refine bodyPost_ret (v := .tuple #[.slice none 0 0, .slice none 0 0, .int .i64 0, .iface tp (.pointer (some a))]) (by simp [results, Tryd.results75, go_sem]) rfl ?_
      exact ⟨⟨_, _, _, _, _, _, rfl⟩, HCt.out⟩
    · have HD1 := Lib.hid (getDlc_whole w b g c l idx 0 cc big chunk d1 h (Nat.zero_le _) hd1 hc1 hc2 hp1 hby)
      obtain ⟨i1, hi1⟩ : ∃ i1, i1 = idx + (Dg.dlcB big cc d1).length := ⟨_, rfl⟩
      rw [← hi1] at hcB HD1
      have HD2 := Lib.hid (fun (W : World) (hr : Ses.RS W b g c l i1 big chunk) (hg : w.grownBy W (some b)) => getDlc_cut W b g c l i1 big chunk tp a hr (HEf.out W hg) cc d2 hd2 hc1 hc2 hby hcB)
      clear h hE hc hc12 hp1 hcB hb4 hi1
      go_enter Tryd.func75, Tryd.ntmps75
      go_wp2_with (first | (go_at_call 72; (with_reducible refine HD1.out.mono ?_); rintro e w1 ⟨A1, c1, rfl, -, -, hrs, hg, -⟩; have HR1 := Lib.hid hrs; have HG1 := Lib.hid hg; clear hrs hg HD1) | (go_at_call 72; (with_reducible refine (HD2.out _ HR1.out HG1.out).mono ?_); rintro e w2 ⟨rfl, hct⟩; have HCt := Lib.hid hct; clear hct))
      refine bodyPost_ret (v := .tuple #[.slice A1 d1.length c1, .slice none 0 0, .int .i64 0, .iface tp (.pointer (some a))]) (by simp [results, Tryd.results75, go_sem]) rfl ?_
      exact ⟨⟨_, _, _, _, _, _, rfl⟩, HCt.out.trans HG1.out⟩
  · obtain ⟨hp1, hp2⟩ := hp12.app
    rw [List.length_append] at hc3
    have HD1 := Lib.hid (getDlc_whole w b g c l idx 0 cc big chunk d1 h (Nat.zero_le _) hd1 hc1 hc2 hp1 hby)
    obtain ⟨i1, hi1⟩ : ∃ i1, i1 = idx + (Dg.dlcB big cc d1).length := ⟨_, rfl⟩
    obtain ⟨i2, hi2⟩ : ∃ i2, i2 = i1 + (Dg.dlcB big cc d2).length := ⟨_, rfl⟩
    rw [← hi1] at hp2 HD1
    rw [← Nat.add_assoc, ← hi1, ← hi2] at hc3
    have HD2 := Lib.hid (fun (W : World) (hr : Ses.RS W b g c l i1 big chunk) => getDlc_whole W b g c l i1 0 cc big chunk d2 hr (Nat.zero_le _) hd2 hc1 hc2 hp2 hby)
    rw [← hi2] at HD2
    have HI := Lib.hid (fun (W : World) (hr : Ses.RS W b g c l i2 big chunk) (hg : w.grownBy W (some b)) => getInt_err W b 4 true true tp a (fun w' => Ses.Ct b g c l big chunk W w') (getInt64_cutPacked W b g c l i2 big chunk tp a hr (HEf.out W hg) 4 (fl : Int) true hc3))
    clear h hE hc hp12 hp1 hp2 hc3 hb4 hi1 hi2
    go_enter Tryd.func75, Tryd.ntmps75
    go_wp2_with (first | (go_at_call 72; (with_reducible refine HD1.out.mono ?_); rintro e w1 ⟨A1, c1, rfl, -, -, hrs, hg, -⟩; have HR1 := Lib.hid hrs; have HG1 := Lib.hid hg; clear hrs hg HD1) | (go_at_call 72; (with_reducible refine (HD2.out _ HR1.out).mono ?_); rintro e w2 ⟨A2, c2, rfl, -, -, hrs, hg, -⟩; have HR2 := Lib.hid hrs; have HG2 := Lib.hid hg; clear hrs hg) | (go_at_call 74; (with_reducible refine (HI.out _ HR2.out (grown_trans HG1.out HG2.out)).mono ?_); rintro e w3 ⟨rfl, hct⟩; have HCt := Lib.hid hct; clear hct))
    refine bodyPost_ret (v := .tuple #[.slice A1 d1.length c1, .slice A2 d2.length c2, .int .i64 0, .iface tp (.pointer (some a))]) (by simp [results, Tryd.results75, go_sem]) rfl ?_
    exact ⟨⟨_, _, _, _, _, _, rfl⟩, HCt.out.trans (grown_trans HG1.out HG2.out)⟩
end Go.Proofs.YtdnahdddkagfhaaDoor.X
