/- Numbers and fixed CLRs of a session where the input ends. -/
import Derived.Test.YtdnahdddkagfhaaDoorRx
namespace Go.Proofs.YtdnahdddkagfhaaDoor.X
open Go.RowKit Go.Proofs.YtdnahdddkagfhaaDoorW.PrintWords Go.Proofs.YtdnahdddkagfhaaDoorW.PrintMore
attribute [local go_sem] setCell_drewN alloc_drewN
set_option linter.unusedVariables false
set_option linter.unusedSimpArgs false
namespace Ses
/-- Somewhere in its input a session stands. -/
def Ct (b g c : Nat) (l : List Int) (big : Bool) (chunk : Int) (w w' : World) : Prop := ∃ i, i ≤ l.length ∧ RS w' b g c l i big chunk ∧ w.grownBy w' (some b)
theorem Cut.nil {l : List Int} {idx : Nat} (h : Cut l idx []) : False := by
  obtain ⟨h0, more, hm, he⟩ := h
  rcases List.append_eq_nil_iff.1 he.symm with ⟨-, h2⟩
  exact hm h2
end Ses
set_option maxHeartbeats 4000000 in
set_option maxRecDepth 100000 in
theorem peek_end (w : World) (b g c : Nat) (l : List Int) (idx : Nat) (big : Bool) (chunk : Int) (tp : TypeId) (a : Addr) (h : Ses.RS w b g c l idx big chunk) (hE : Ses.EE tp a w) (hk : idx = l.length) :
    Calls Tryd.prog 78 #[.pointer (some ⟨b, 0, none⟩), .int .i64 1] w fun e w' => e = .returned (.tuple #[.slice none 0 0, .iface tp (.pointer (some a))]) ∧ Ses.RS w' b g c l idx big chunk ∧ w.grownBy w' (some b) := by
  have hr := read_end w b g c l idx big chunk tp a h hE 1 (by omega) (by omega) (by omega)
  rw [show ((1 : Nat) : Int) = 1 from rfl] at hr
  have HR := Lib.hid hr
  have c4 := h.c4
  have HC := Lib.hid (fun W (hw : Ses.RS W b g c l idx big chunk) => hw.c4)
  have HFr := Lib.hid (fun W (hw : Ses.RS W b g c l idx big chunk) => blk_free hw.blk 4)
  have HPt := Lib.hid (fun W (hw : Ses.RS W b g c l idx big chunk) => hw.put idx)
  clear hr h hE hk
  go_enter Tryd.func78, Tryd.ntmps78
  go_wp2_with (go_at_call 82; (with_reducible refine HR.out.mono ?_); rintro e w1 ⟨rfl, hrs, hg⟩; have x4 := HC.out _ hrs; have f4 := HFr.out _ hrs; have HP := Lib.hid (HPt.out _ hrs); have HRS := Lib.hid hrs; have HG := Lib.hid hg; clear hrs hg)
  go_ret2
  exact ⟨rfl, HP.out, grown_set HG.out⟩
set_option maxHeartbeats 4000000 in
set_option maxRecDepth 100000 in
/-- Where the input has ended no long number stands ahead. -/
theorem long_end (w : World) (b g c : Nat) (l : List Int) (idx : Nat) (big : Bool) (chunk : Int) (tp : TypeId) (a : Addr) (h : Ses.RS w b g c l idx big chunk) (hE : Ses.EE tp a w) (hk : idx = l.length) :
    Calls Tryd.prog 71 #[.pointer (some ⟨b, 0, none⟩)] w fun e w' => e = .returned (.bool false) ∧ Ses.RS w' b g c l idx big chunk ∧ w.grownBy w' (some b) := by
  have HP := Lib.hid (peek_end w b g c l idx big chunk tp a h hE hk)
  clear h hE hk
  go_enter Tryd.func71, Tryd.ntmps71
  go_wp2_with (go_at_call 78; (with_reducible refine HP.out.mono ?_); rintro e w1 ⟨rfl, hrs, hg⟩; have HRS := Lib.hid hrs; have HG := Lib.hid hg; clear hrs hg)
  go_ret
  exact ⟨rfl, HRS.out, HG.out⟩
theorem long_cut (w : World) (b g c : Nat) (l : List Int) (idx : Nat) (big : Bool) (chunk : Int) (tp : TypeId) (a : Addr) (h : Ses.RS w b g c l idx big chunk) (hE : Ses.EE tp a w) (n : Int) (hc : Ses.Cut l idx (Dg.packed n)) :
    Calls Tryd.prog 71 #[.pointer (some ⟨b, 0, none⟩)] w fun e w' => e = .returned (.bool false) ∧ Ses.RS w' b g c l idx big chunk ∧ w.grownBy w' (some b) := by
  have hl8 : (Dg.dg n).length ≤ 8 := Dg.dg_len n
  unfold Dg.packed at hc
  rcases hc.cons with hi | ⟨q0, q1, q2⟩
  · exact long_end w b g c l idx big chunk tp a h hE hi
  · exact long_ok w b g c l idx big chunk _ _ h (by omega) q1 (Ses.b127 ⟨_, by omega⟩) (by show ((Dg.dg n).length : Int) ≤ 8; omega)
set_option maxHeartbeats 4000000 in
set_option maxRecDepth 100000 in
theorem getInt64_cutPacked (w : World) (b g c : Nat) (l : List Int) (idx : Nat) (big : Bool) (chunk : Int) (tp : TypeId) (a : Addr) (h : Ses.RS w b g c l idx big chunk) (hE : Ses.EE tp a w) (size n : Int) (sb : Bool) (hc : Ses.Cut l idx (Dg.packed n)) :
    Calls Tryd.prog 73 #[.pointer (some ⟨b, 0, none⟩), .int .i64 size, .bool true, .bool sb] w fun e w' => e = .returned (.tuple #[.int .i64 0, .iface tp (.pointer (some a))]) ∧ Ses.Ct b g c l big chunk w w' := by
  have hl8 : (Dg.dg n).length ≤ 8 := Dg.dg_len n
  unfold Dg.packed at hc
  rcases hc.cons with hi | ⟨q0, q1, q2⟩
  · have hr := read_end w b g c l idx big chunk tp a h hE 1 (by omega) (by omega) (by omega)
    rw [show ((1 : Nat) : Int) = 1 from rfl] at hr
    have HR := Lib.hid hr
    have HI : Hid (idx ≤ l.length) := Lib.hid (by omega)
    clear hr h hE
    go_enter Tryd.func73, Tryd.ntmps73
    go_wp2_with (go_at_call 82; (with_reducible refine HR.out.mono ?_); rintro e w1 ⟨rfl, hrs, hg⟩; have HRS := Lib.hid hrs; have HG := Lib.hid hg; clear hrs hg)
    go_ret2
    exact ⟨rfl, idx, HI.out, HRS.out, HG.out⟩
  · obtain ⟨m, hm⟩ : ∃ m, m = (Dg.dg n).length := ⟨_, rfl⟩
    have hsh := q2.short
    rw [List.length_reverse, ← hm] at hsh
    rw [← hm] at q1 hl8
    have hm0 : 0 < m := by
      rcases Nat.eq_zero_or_pos m with h0 | h0
      · have hd : Dg.dg n = [] := List.eq_nil_of_length_eq_zero (by omega)
        rw [hd] at q2
        exact (Ses.Cut.nil q2).elim
      · exact h0
    have hr := read_ok w b g c l idx 1 big chunk h (by omega) (by omega)
    rw [show ((1 : Nat) : Int) = 1 from rfl] at hr
    have HR1 := Lib.hid hr
    have HC := Lib.hid (fun W (hw : Ses.RS W b g c l (idx + 1) big chunk) => (hw.cells idx (by omega)).trans (by rw [q1]))
    have hb4 := hE.ne h
    have HR2f := Lib.hid (fun W (hw : Ses.RS W b g c l (idx + 1) big chunk) (hg : w.grownBy W (some b)) => read_end W b g c l (idx + 1) big chunk tp a hw (hE.grown hg hb4) m hsh (by omega) (by omega))
    have e1 : Go.bits .and .i64 (m : Int) 128 = 0 := Ses.b128w ⟨m, by omega⟩
    have k4 : ((m : Int) == 0) = false := beq_eq_false_iff_ne.2 (by omega)
    have k5 : decide ((m : Int) = 0) = false := decide_eq_false (by omega)
    have hxw : wrap64 (m : Int) = m := by unfold wrap64; omega
    have hxw2 : IntKind.i64.wrap (m : Int) = m := (IntKind.wrap_i64 _).trans (by omega)
    have HI : Hid (idx + 1 ≤ l.length) := Lib.hid (by omega)
    have m0 : (0 : Int) ≤ (m : Int) := Int.natCast_nonneg _
    have m8 : (m : Int) ≤ 8 := by omega
    clear hr h hE q0 q1 q2 hsh hm hc hb4
    go_enter Tryd.func73, Tryd.ntmps73
    go_wp2_with (first | (go_at_call 82; (with_reducible refine HR1.out.mono ?_); rintro e w1 ⟨rfl, hrs, hg⟩; have x0 := HC.out _ hrs; have HRS := Lib.hid hrs; have HG := Lib.hid hg; have HR2 := Lib.hid (HR2f.out _ hrs hg); clear hrs hg HR1) | (go_at_call 82; (with_reducible refine HR2.out.mono ?_); rintro e w2 ⟨rfl, hrs, hg⟩; have HS2 := Lib.hid hrs; have HG2 := Lib.hid hg; clear hrs hg))
    go_ret2
    exact ⟨rfl, idx + 1, HI.out, HS2.out, grown_trans HG.out HG2.out⟩
set_option maxHeartbeats 4000000 in
set_option maxRecDepth 100000 in
theorem getInt64_cutSized (w : World) (b g c : Nat) (l : List Int) (idx : Nat) (big : Bool) (chunk : Int) (tp : TypeId) (a : Addr) (h : Ses.RS w b g c l idx big chunk) (hE : Ses.EE tp a w) (m : Nat) (sb : Bool) (hm0 : 0 < m) (hm8 : m ≤ 8) (hidx : idx ≤ l.length) (hc : l.length < idx + m) :
    Calls Tryd.prog 73 #[.pointer (some ⟨b, 0, none⟩), .int .i64 m, .bool false, .bool sb] w fun e w' => e = .returned (.tuple #[.int .i64 0, .iface tp (.pointer (some a))]) ∧ Ses.Ct b g c l big chunk w w' := by
  have HR := Lib.hid (read_end w b g c l idx big chunk tp a h hE m hc (by omega) hidx)
  have HI := Lib.hid hidx
  have k4 : ((m : Int) == 0) = false := beq_eq_false_iff_ne.2 (by omega)
  have k5 : decide ((m : Int) = 0) = false := decide_eq_false (by omega)
  clear h hE hc
  go_enter Tryd.func73, Tryd.ntmps73
  go_wp2_with (go_at_call 82; (with_reducible refine HR.out.mono ?_); rintro e w1 ⟨rfl, hrs, hg⟩; have HRS := Lib.hid hrs; have HG := Lib.hid hg; clear hrs hg)
  go_ret2
  exact ⟨rfl, idx, HI.out, HRS.out, HG.out⟩
set_option maxHeartbeats 4000000 in
set_option maxRecDepth 100000 in
theorem getInt_err (W : World) (b : Nat) (size : Int) (c1 sb : Bool) (tp : TypeId) (a : Addr) (Q : World → Prop) (h : Calls Tryd.prog 73 #[.pointer (some ⟨b, 0, none⟩), .int .i64 size, .bool c1, .bool sb] W fun e w' => e = .returned (.tuple #[.int .i64 0, .iface tp (.pointer (some a))]) ∧ Q w') :
    Calls Tryd.prog 74 #[.pointer (some ⟨b, 0, none⟩), .int .i64 size, .bool c1, .bool sb] W fun e w' => e = .returned (.tuple #[.int .i64 0, .iface tp (.pointer (some a))]) ∧ Q w' := by
  have H := Lib.hid h
  clear h
  go_enter Tryd.func74, Tryd.ntmps74
  go_wp2_with (go_at_call 73; (with_reducible refine H.out.mono ?_); rintro e w1 ⟨rfl, hq⟩; have HQ := Lib.hid hq; clear hq)
  go_ret2
  exact ⟨rfl, HQ.out⟩
set_option maxHeartbeats 4000000 in
set_option maxRecDepth 100000 in
/-- A fixed CLR that is cut. -/
theorem getFixed_cut (w : World) (b g c : Nat) (l : List Int) (idx : Nat) (big : Bool) (chunk : Int) (tp : TypeId) (a : Addr) (h : Ses.RS w b g c l idx big chunk) (hE : Ses.EE tp a w) (d : List Int) (hd2 : d.length ≤ 100000) (hby : ∀ y ∈ l, 0 ≤ y ∧ y ≤ 255) (hc : Ses.Cut l idx (Dg.fixedB d)) :
    Calls Tryd.prog 77 #[.pointer (some ⟨b, 0, none⟩)] w fun e w' => e = .returned (.tuple #[.slice none 0 0, .iface tp (.pointer (some a))]) ∧ Ses.Ct b g c l big chunk w w' := by
  have hb4 := hE.ne h
  have hend : idx = l.length → Calls Tryd.prog 77 #[.pointer (some ⟨b, 0, none⟩)] w fun e w' => e = .returned (.tuple #[.slice none 0 0, .iface tp (.pointer (some a))]) ∧ Ses.Ct b g c l big chunk w w' := fun hi => by
    have HR := Lib.hid (getByte_end w b g c l idx big chunk tp a h hE hi)
    have HI : Hid (idx ≤ l.length) := Lib.hid (by omega)
    clear h hE hi hc
    go_enter Tryd.func77, Tryd.ntmps77
    go_wp2_with (go_at_call 68; (with_reducible refine HR.out.mono ?_); rintro e w1 ⟨rfl, hrs, hg⟩; have HRS := Lib.hid hrs; have HG := Lib.hid hg; clear hrs hg)
    go_ret2
    exact ⟨rfl, idx, HI.out, HRS.out, HG.out⟩
  unfold Dg.fixedB at hc
  by_cases hs : d.length ≤ 252
  · rw [if_pos hs] at hc
    rcases hc.cons with hi | ⟨q0, q1, q2⟩
    · exact hend hi
    · clear hend
      have hgb := getByte_ok w b g c l idx big chunk h q0
      rw [q1] at hgb
      have HR := Lib.hid hgb
      have hsh := q2.short
      have hd0 : 0 < d.length := by
        rcases Nat.eq_zero_or_pos d.length with h0 | h0
        · rw [List.eq_nil_of_length_eq_zero h0] at q2
          exact (Ses.Cut.nil q2).elim
        · exact h0
      obtain ⟨k, hk⟩ : ∃ k, k = d.length := ⟨_, rfl⟩
      rw [← hk] at hsh HR hs hd0
      have HY := Lib.hid (fun (W : World) (hw : Ses.RS W b g c l (idx + 1) big chunk ∧ w.grownBy W (some b)) => getBytes_end W b g c l (idx + 1) big chunk tp a hw.1 (hE.grown hw.2 hb4) k hsh (by omega) (by omega))
      have HI : Hid (idx + 1 ≤ l.length) := Lib.hid (by omega)
      have kw : IntKind.i64.wrap (k : Int) = (k : Int) := (IntKind.wrap_i64 _).trans (by omega)
      have k1 : ((k : Int) == 0) = false := beq_eq_false_iff_ne.2 (by omega)
      have k2 : ((k : Int) == 253) = false := beq_eq_false_iff_ne.2 (by omega)
      have k3 : ((k : Int) == 255) = false := beq_eq_false_iff_ne.2 (by omega)
      have k4 : ((k : Int) == 254) = false := beq_eq_false_iff_ne.2 (by omega)
      have j1 : decide ((k : Int) = 0) = false := decide_eq_false (by omega)
      have j2 : decide ((k : Int) = 253) = false := decide_eq_false (by omega)
      have j3 : decide ((k : Int) = 255) = false := decide_eq_false (by omega)
      have j4 : decide ((k : Int) = 254) = false := decide_eq_false (by omega)
      clear hgb h hE hc q0 q1 q2 hk hsh hb4
      go_enter Tryd.func77, Tryd.ntmps77
      go_wp2_with (first | (go_at_call 68; (with_reducible refine HR.out.mono ?_); rintro e w1 ⟨rfl, hrs, hg⟩; have HRS := Lib.hid hrs; have HG := Lib.hid hg; clear hrs hg) | (go_at_call 69; (with_reducible refine (HY.out _ ⟨HRS.out, HG.out⟩).mono ?_); rintro e w2 ⟨rfl, hrs, hg⟩; have HRT := Lib.hid hrs; have HH := Lib.hid hg; clear hrs hg))
      go_ret2
      exact ⟨rfl, idx + 1, HI.out, HRT.out, grown_trans HG.out HH.out⟩
  · rw [if_neg hs] at hc
    rcases hc.cons with hi | ⟨q0, q1, q2⟩
    · exact hend hi
    · clear hend
      have hgb := getByte_ok w b g c l idx big chunk h q0
      rw [q1] at hgb
      have HR := Lib.hid hgb
      have hll : ((Dg.plainL 4 (d.length : Int)).reverse).length = 4 := by rw [List.length_reverse, Dg.plainL_len]
      rcases q2.app with q3 | ⟨q3, q4⟩
      · have hsh := q3.short
        rw [hll] at hsh
        have hI0 : ∀ (W : World), Ses.RS W b g c l (idx + 1) big chunk ∧ w.grownBy W (some b) → Calls Tryd.prog 74 #[.pointer (some ⟨b, 0, none⟩), .int .i64 ((4 : Nat) : Int), .bool false, .bool true] W fun e w' => e = .returned (.tuple #[.int .i64 0, .iface tp (.pointer (some a))]) ∧ Ses.Ct b g c l big chunk W w' := fun W hw => getInt_err W b ((4 : Nat) : Int) false true tp a (fun w' => Ses.Ct b g c l big chunk W w') (getInt64_cutSized W b g c l (idx + 1) big chunk tp a hw.1 (hE.grown hw.2 hb4) 4 true (by omega) (by omega) (by omega) hsh)
        rw [show ((4 : Nat) : Int) = 4 from rfl] at hI0
        have HI := Lib.hid hI0
        clear hgb h hE hc q0 q1 q2 q3 hsh hb4 hI0 hs
        go_enter Tryd.func77, Tryd.ntmps77
        go_wp2_with (first | (go_at_call 68; (with_reducible refine HR.out.mono ?_); rintro e w1 ⟨rfl, hrs, hg⟩; have HRS := Lib.hid hrs; have HG := Lib.hid hg; clear hrs hg) | (go_at_call 74; (with_reducible refine (HI.out _ ⟨HRS.out, HG.out⟩).mono ?_); rintro e w3 ⟨rfl, hct⟩; have HCt := Lib.hid hct; clear hct))
        go_ret2
        obtain ⟨i, hi, hrs, hg⟩ := HCt.out
        exact ⟨rfl, i, hi, hrs, grown_trans HG.out hg⟩
      · have hsh := q4.short
        rw [hll] at hsh
        rw [hll] at q4
        have hI0 : ∀ (W : World) (hr : Ses.RS W b g c l (idx + 1) big chunk), _ := fun W hr => getInt_of W b ((4 : Nat) : Int) (wrap64 (d.length : Int)) false true (fun w' => Ses.RS w' b g c l (idx + 1 + 4) big chunk ∧ W.grownBy w' (some b)) (getInt64_sized W b g c l (idx + 1) 4 big true chunk (d.length : Int) hr (by omega) (by omega) (by rw [if_pos rfl]; exact q3) (by omega) (by omega) hby)
        rw [show wrap64 (d.length : Int) = (d.length : Int) by unfold wrap64; omega, show ((4 : Nat) : Int) = 4 from rfl] at hI0
        obtain ⟨k, hk⟩ : ∃ k, k = d.length := ⟨_, rfl⟩
        rw [← hk] at hI0 hsh hs hd2
        have HI := Lib.hid hI0
        have h4l := q4.1
        have HY := Lib.hid (fun (W : World) (hw : Ses.RS W b g c l (idx + 1 + 4) big chunk ∧ w.grownBy W (some b)) => getBytes_end W b g c l (idx + 1 + 4) big chunk tp a hw.1 (hE.grown hw.2 hb4) k hsh (by omega) h4l)
        have HI4 := Lib.hid h4l
        clear hgb h hE hc q0 q1 q2 q3 q4 hsh hb4 hI0 hk h4l
        go_enter Tryd.func77, Tryd.ntmps77
        go_wp2_with (first | (go_at_call 68; (with_reducible refine HR.out.mono ?_); rintro e w1 ⟨rfl, hrs, hg⟩; have HRS := Lib.hid hrs; have HG := Lib.hid hg; clear hrs hg) | (go_at_call 74; (with_reducible refine (HI.out _ HRS.out).mono ?_); rintro e w3 ⟨rfl, hrs, hg⟩; have HRI := Lib.hid hrs; have HGI := Lib.hid hg; clear hrs hg) | (go_at_call 69; (with_reducible refine (HY.out _ ⟨HRI.out, grown_trans HG.out HGI.out⟩).mono ?_); rintro e w2 ⟨rfl, hrs, hg⟩; have HRT := Lib.hid hrs; have HH := Lib.hid hg; clear hrs hg))
        go_ret2
        exact ⟨rfl, idx + 1 + 4, HI4.out, HRT.out, grown_trans (grown_trans HG.out HGI.out) HH.out⟩
end Go.Proofs.YtdnahdddkagfhaaDoor.X
