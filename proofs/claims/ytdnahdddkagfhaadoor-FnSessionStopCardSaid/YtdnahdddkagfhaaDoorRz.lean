/- GetClr where the input ends. -/
import Derived.Test.YtdnahdddkagfhaaDoorRy
namespace Go.Proofs.YtdnahdddkagfhaaDoor.X
open Go.RowKit Go.Proofs.YtdnahdddkagfhaaDoorW.PrintWords Go.Proofs.YtdnahdddkagfhaaDoorW.PrintMore
attribute [local go_sem] setCell_drewN alloc_drewN
set_option linter.unusedVariables false
set_option linter.unusedSimpArgs false
namespace Ses
theorem Mid.ct {w wr w' : World} {b g c : Nat} {l : List Int} {idx : Nat} {big : Bool} {chunk : Int} {tb gB : Nat} {cs : Array Value} {acc : List Int} (h : Mid w wr b g c l idx big chunk tb gB cs acc) (hb : b < w.heap.size) (k : Ct b g c l big chunk wr w') : Ct b g c l big chunk w w' := by
  obtain ⟨i, hi, hr, hg⟩ := k
  exact ⟨i, hi, hr, grown_trans h.grown hg⟩
/-- What is still to be read of a CLR that is cut. -/
def RestC (l : List Int) (big : Bool) (cc : Nat) (acc : List Int) (idx : Nat) (rest : List Int) (k : Nat) : Prop :=
  acc.length + rest.length ≤ 100000 ∧ Cut l idx (Dg.chunksF big cc k rest ++ [0]) ∧ rest.length ≤ k
end Ses
set_option maxHeartbeats 16000000 in
set_option maxRecDepth 100000 in
theorem getClr_cutLong (w : World) (b g c : Nat) (l : List Int) (idx : Nat) (big : Bool) (chunk : Int) (tp : TypeId) (a : Addr) (h : Ses.RS w b g c l idx big chunk) (hE : Ses.EE tp a w) (cc : Nat) (d : List Int) (hd : 252 < d.length) (hd2 : d.length ≤ 100000) (hc1 : 1 ≤ cc) (hc2 : cc ≤ 252) (hby : ∀ y ∈ l, 0 ≤ y ∧ y ≤ 255) (q0 : idx < l.length) (q1 : l.getD idx 0 = 254) (q2 : Ses.Cut l (idx + 1) (Dg.chunksF big cc d.length d ++ [0])) :
    Calls Tryd.prog 70 #[.pointer (some ⟨b, 0, none⟩)] w fun e w' => e = .returned (.tuple #[.slice none 0 0, .iface tp (.pointer (some a))]) ∧ Ses.Ct b g c l big chunk w w' := by
  have hbw := xb_lt h.blk
  have hgw := h.lt
  have hb4 := hE.ne h
  have hgb := getByte_ok w b g c l idx big chunk h q0
  rw [q1] at hgb
  have HR := Lib.hid hgb
  have HRest : Hid (Ses.RestC l big cc [] (idx + 1) d d.length) := Lib.hid ⟨by simp only [List.length_nil]; omega, q2, Nat.le_refl _⟩
  have HEE : Hid (∀ W : World, w.grownBy W (some b) → Ses.EE tp a W) := Lib.hid (fun W hW => hE.grown hW hb4)
  have HGB := Lib.hid (fun (W : World) (i : Nat) (x : Int) (r : List Int) (h : Ses.RS W b g c l i big chunk) (hp : Ses.Pre l i (x :: r)) => (hp.cons.2.1 ▸ getByte_ok W b g c l i big chunk h hp.cons.1 : Calls Tryd.prog 68 #[.pointer (some ⟨b, 0, none⟩)] W fun e w' => e = .returned (.tuple #[.int .u8 x, .nilIface]) ∧ Ses.RS w' b g c l (i + 1) big chunk ∧ W.grownBy w' (some b)))
  have HGI := Lib.hid (fun (W : World) (i n : Nat) (h : Ses.RS W b g c l i big chunk) (hp : Ses.Pre l i (Dg.packed (n : Int))) (hn : n ≤ 255) => getInt_packed W b g c l i big true chunk 4 (n : Int) h hp (by omega) (by omega) hby)
  have HGY : Hid (∀ (W : World) (i n : Nat) (p : List Int), Ses.RS W b g c l i big chunk → Ses.Pre l i p → n = p.length → Calls Tryd.prog 69 #[.pointer (some ⟨b, 0, none⟩), .int .i64 n] W (Ses.RdP b g c l (i + n) big chunk p (g + 1) W)) := Lib.hid (fun W i n p h hp hn => by
    subst hn
    exact getBytes_any W b g c l i (g + 1) big chunk p h hp (by omega))
  have HEB : Hid (∀ (W : World) (i n : Nat), Ses.RS W b g c l i big chunk → w.grownBy W (some b) → Ses.Cut l i (Dg.headB big n) → (big = false → Calls Tryd.prog 68 #[.pointer (some ⟨b, 0, none⟩)] W fun e w' => e = .returned (.tuple #[.int .u8 0, .iface tp (.pointer (some a))]) ∧ Ses.Ct b g c l big chunk W w') ∧ (big = true → Calls Tryd.prog 74 #[.pointer (some ⟨b, 0, none⟩), .int .i64 4, .bool true, .bool true] W fun e w' => e = .returned (.tuple #[.int .i64 0, .iface tp (.pointer (some a))]) ∧ Ses.Ct b g c l big chunk W w')) := Lib.hid (fun W i n hr hg hc => ⟨fun hb => by
    subst hb
    have hcc : Ses.Cut l i [(n : Int)] := hc
    rcases hcc.cons with hi | ⟨-, -, q⟩
    · refine (getByte_end W b g c l i false chunk tp a hr (HEE.out W hg) hi).mono ?_
      rintro e w' ⟨rfl, h1, h2⟩
      exact ⟨rfl, i, by omega, h1, h2⟩
    · exact (Ses.Cut.nil q).elim, fun hb => by
    subst hb
    exact getInt_err W b 4 true true tp a (fun w' => Ses.Ct b g c l true chunk W w') (getInt64_cutPacked W b g c l i true chunk tp a hr (HEE.out W hg) 4 (n : Int) true hc)⟩)
  clear h hgb q1 q2
  go_enter Tryd.func70, Tryd.ntmps70
  go_wp2_with (go_at_call 68; (with_reducible refine HR.out.mono ?_); rintro e w1 ⟨rfl, hrs, hg⟩; have HRS := Lib.hid hrs; have HG := Lib.hid hg; clear hrs hg)
  have hz1 := HG.out.size
  have HM0 : Hid (Ses.Mid w (w1.alloc (.cells #[.slice none 0 0, .int .i64 0, .int .i8 0] 80)) b g c l (idx + 1) big chunk w1.heap.size w1.heap.size #[.slice none 0 0, .int .i64 0, .int .i8 0] []) := Lib.hid ⟨HRS.out.bl (below_alloc (Below.refl _ _) _), ⟨xb_new _ _, rfl, ⟨0, rfl⟩, .inl ⟨rfl, rfl, rfl⟩⟩, ⟨hz1, hz1⟩, grown_alloc HG.out _⟩
  go_loopw [3, 5] (fun v3 v5 wr => v3 = .nilIface ∧ (∃ (m : Nat) (idx' gB k : Nat) (rest acc : List Int) (cs : Array Value), 0 < m ∧ v5 = .int .i64 m ∧ Hid (Ses.Mid w wr b g c l idx' big chunk w1.heap.size gB cs acc) ∧ Hid (Ses.RestC l big cc acc idx' rest k))) (fun _ v5 wr => l.length + 1 - Ses.idxOf wr b)
  case atStart => exact ⟨rfl, 254, idx + 1, _, d.length, d, [], _, by omega, rfl, HM0, HRest⟩
  case round =>
    obtain ⟨rfl, m, idx', gB, k, rest, acc, cs, hm, rfl, HM, HT⟩ := hrel
    have t0 : decide ((m : Int) > 0) = true := decide_eq_true (by omega)
    have c5 := HM.out.rs.c5
    obtain ⟨hacc, hcut, hrk⟩ := HT.out
    clear HT
    have htb := HM.out.buf.lt
    have fin : ∀ n : Nat, Ses.Cut l idx' (Dg.headB big n) → Hid ((big = false → Calls Tryd.prog 68 #[.pointer (some ⟨b, 0, none⟩)] wr fun e w' => e = .returned (.tuple #[.int .u8 0, .iface tp (.pointer (some a))]) ∧ Ses.Ct b g c l big chunk wr w') ∧ (big = true → Calls Tryd.prog 74 #[.pointer (some ⟨b, 0, none⟩), .int .i64 4, .bool true, .bool true] wr fun e w' => e = .returned (.tuple #[.int .i64 0, .iface tp (.pointer (some a))]) ∧ Ses.Ct b g c l big chunk wr w')) := fun n hc => Lib.hid (HEB.out wr idx' n HM.out.rs HM.out.grown hc)
    rcases rest with _ | ⟨r0, rest⟩
    · rw [Dg.chunksF_nil, List.nil_append] at hcut
      have h0 : Dg.headB big 0 = [0] := by
        unfold Dg.headB
        split
        · rfl
        · rfl
      have HH1 := fin 0 (by rw [h0]; exact hcut)
      clear fin hcut h0 hacc hrk
      cases big
      all_goals
        go_wp2_with (first | (go_at_call 68; (with_reducible refine (HH1.out.1 rfl).mono ?_); rintro e w4 ⟨rfl, hct⟩; have HCt := Lib.hid (Ses.Mid.ct HM.out hbw hct); clear hct) | (go_at_call 74; (with_reducible refine (HH1.out.2 rfl).mono ?_); rintro e w4 ⟨rfl, hct⟩; have HCt := Lib.hid (Ses.Mid.ct HM.out hbw hct); clear hct))
        go_ret2
        exact ⟨rfl, HCt.out⟩
    · obtain ⟨rs, hrs0⟩ : ∃ rs, rs = r0 :: rest := ⟨_, rfl⟩
      have hrl : 0 < rs.length := by rw [hrs0]; simp
      rw [← hrs0] at hacc hcut hrk
      clear hrs0
      obtain ⟨k', hk'⟩ : ∃ k', k = k' + 1 := ⟨k - 1, by omega⟩
      subst hk'
      have hne : rs ≠ [] := fun e => by rw [e] at hrl; simp at hrl
      obtain ⟨p, hp⟩ : ∃ p, p = rs.take cc := ⟨_, rfl⟩
      obtain ⟨n1, hn1⟩ : ∃ n1, n1 = p.length := ⟨_, rfl⟩
      have hn1v : n1 = min cc rs.length := by rw [hn1, hp, List.length_take]
      have ech : Dg.chunksF big cc (k' + 1) rs = Dg.headB big n1 ++ p ++ Dg.chunksF big cc k' (rs.drop cc) := by rw [Dg.chunksF, if_neg hne, ← hp, ← hn1]
      rw [ech, List.append_assoc, List.append_assoc] at hcut
      rcases hcut.app with hcA | ⟨hp1, hcB⟩
      · have HH1 := fin n1 hcA
        clear fin hcut hacc hrk hne hn1 hn1v ech hp hcA
        cases big
        all_goals
          go_wp2_with (first | (go_at_call 68; (with_reducible refine (HH1.out.1 rfl).mono ?_); rintro e w4 ⟨rfl, hct⟩; have HCt := Lib.hid (Ses.Mid.ct HM.out hbw hct); clear hct) | (go_at_call 74; (with_reducible refine (HH1.out.2 rfl).mono ?_); rintro e w4 ⟨rfl, hct⟩; have HCt := Lib.hid (Ses.Mid.ct HM.out hbw hct); clear hct))
          go_ret2
          exact ⟨rfl, HCt.out⟩
      · clear fin
        have hlb : 0 < (Dg.headB big n1).length := by
          unfold Dg.headB
          split
          · rw [Dg.packed, List.length_cons]; omega
          · simp
        obtain ⟨i1, hi1⟩ : ∃ i1, i1 = idx' + (Dg.headB big n1).length := ⟨_, rfl⟩
        have hh : (big = false → Calls Tryd.prog 68 #[.pointer (some ⟨b, 0, none⟩)] wr fun e w' => e = .returned (.tuple #[.int .u8 n1, .nilIface]) ∧ Ses.RS w' b g c l i1 big chunk ∧ wr.grownBy w' (some b)) ∧ (big = true → Calls Tryd.prog 74 #[.pointer (some ⟨b, 0, none⟩), .int .i64 4, .bool true, .bool true] wr fun e w' => e = .returned (.tuple #[.int .i64 n1, .nilIface]) ∧ Ses.RS w' b g c l i1 big chunk ∧ wr.grownBy w' (some b)) := ⟨fun hb => by
            subst hb
            rw [hi1]
            exact HGB.out wr idx' (n1 : Int) [] HM.out.rs hp1, fun hb => by
            subst hb
            rw [hi1]
            exact HGI.out wr idx' n1 HM.out.rs hp1 (by omega)⟩
        have HH1 := Lib.hid hh
        rw [← hi1] at hcB
        have pw : IntKind.i64.wrap (n1 : Int) = (n1 : Int) := (IntKind.wrap_i64 _).trans (by omega)
        have hn1p : 0 < n1 := by omega
        have hn1q : (n1 : Int) ≤ 252 := by omega
        rcases hcB.app with hcC | ⟨hp2, hcD⟩
        · have hsh := hcC.short
          rw [← hn1] at hsh
          have hi1l := hcC.1
          have HGE : Hid (∀ W : World, Ses.RS W b g c l i1 big chunk → w.grownBy W (some b) → Calls Tryd.prog 69 #[.pointer (some ⟨b, 0, none⟩), .int .i64 n1] W fun e w' => e = .returned (.tuple #[.slice none 0 0, .iface tp (.pointer (some a))]) ∧ Ses.Ct b g c l big chunk W w') := Lib.hid (fun W hr hg => (getBytes_end W b g c l i1 big chunk tp a hr (HEE.out W hg) n1 hsh (by omega) hi1l).mono (by
            rintro e w' ⟨rfl, h1, h2⟩
            exact ⟨rfl, i1, hi1l, h1, h2⟩))
          clear hh hp1 hcB hcC hcut hacc hrk hne hn1 hn1v ech hi1 hlb hp hsh hi1l
          cases big
          all_goals
            go_wp2_with (first | (go_at_call 68; (with_reducible refine (HH1.out.1 rfl).mono ?_); rintro e w4 ⟨rfl, hrs, hg⟩; have HM4 := Lib.hid (HM.out.read hbw hrs hg); have HS4 := Lib.hid (Nat.lt_of_lt_of_le htb hg.size); clear hrs hg) | (go_at_call 74; (with_reducible refine (HH1.out.2 rfl).mono ?_); rintro e w4 ⟨rfl, hrs, hg⟩; have HM4 := Lib.hid (HM.out.read hbw hrs hg); have HS4 := Lib.hid (Nat.lt_of_lt_of_le htb hg.size); clear hrs hg) | (go_at_call 69; (with_reducible refine (HGE.out _ HM4.out.rs HM4.out.grown).mono ?_); rintro e w5 ⟨rfl, hct⟩; have HCt := Lib.hid (Ses.Mid.ct HM4.out hbw hct); clear hct))
            go_ret2
            exact ⟨rfl, HCt.out⟩
        · have HG1 := Lib.hid (fun (W : World) (h : Ses.RS W b g c l i1 big chunk) => HGY.out W i1 n1 p h hp2 hn1)
          have HN1 := Lib.hid hn1
          rw [← hn1] at hcD
          have hpl : p.length ≤ rs.length := by rw [hp, List.length_take]; omega
          have hT : Ses.RestC l big cc (acc ++ p) (i1 + n1) (rs.drop cc) k' := ⟨by rw [List.length_append, List.length_drop, ← hn1]; omega, hcD, by rw [List.length_drop]; omega⟩
          have HT2 := Lib.hid hT
          have HAl := Lib.hid (show acc.length + p.length ≤ 1000000 by omega)
          have HQ := Lib.hid (show idx' < i1 ∧ i1 ≤ l.length from ⟨by omega, hp2.1⟩)
          have HWr : Hid (∀ (W W' : World) (i n : Nat) (p : List Int) (A : Option Addr) (cp : Nat), Ses.Mid w W b g c l i big chunk w1.heap.size gB cs acc → n = p.length → Kd.C (Kd.int .u8) W A p.length p → (∀ a, A = some a → a.block < g + 1 ∨ W'.heap.size ≤ a.block) → w1.heap.size < W'.heap.size → acc.length + p.length ≤ 1000000 → Calls Tryd.prog 58 #[.pointer (some ⟨w1.heap.size, 0, none⟩), .slice A n cp] W (BufP (.tuple #[.int .i64 n, .nilIface]) w1.heap.size 0 gB 80 cs (acc ++ p) W)) := Lib.hid (fun W W' i n p A cp hM hn hC hab hW' hl => by
            subst hn
            exact write_any w1.heap.size 0 gB _ cs acc p A cp W hM.buf hC (fun a ha => by
              have := hab a ha
              have := HG.out.size
              omega) (by omega))
          clear hh hp1 hp2 hcB hcD hcut hacc hrk hne hn1 hn1v ech hi1 hlb hT hp hpl
          cases big
          all_goals
            go_wp2_with (first | (go_at_call 68; (with_reducible refine (HH1.out.1 rfl).mono ?_); rintro e w4 ⟨rfl, hrs, hg⟩; have HM4 := Lib.hid (HM.out.read hbw hrs hg); have HS4 := Lib.hid (Nat.lt_of_lt_of_le htb hg.size); clear hrs hg) | (go_at_call 74; (with_reducible refine (HH1.out.2 rfl).mono ?_); rintro e w4 ⟨rfl, hrs, hg⟩; have HM4 := Lib.hid (HM.out.read hbw hrs hg); have HS4 := Lib.hid (Nat.lt_of_lt_of_le htb hg.size); clear hrs hg) | (go_at_call 69; (with_reducible refine (HG1.out _ HM4.out.rs).mono ?_); rintro e w5 ⟨A5, c5, rfl, hC, hab, hrs, hg, -⟩; (rw [← HN1.out]); have HC5 := Lib.hid hC; have HA5 := Lib.hid hab; have HM5 := Lib.hid (HM4.out.read hbw hrs hg); clear hC hab hrs hg) | (go_at_call 58; (with_reducible refine (HWr.out _ w4 _ n1 p _ _ HM5.out HN1.out HC5.out HA5.out HS4.out HAl.out).mono ?_); rintro e w6 ⟨rfl, g6, cs6, hst⟩; have HM6 := Lib.hid (HM5.out.wrote hbw hgw hst); clear hst))
            go_roundw
            case measure => rw [HM6.out.rs.idxOf, HM.out.rs.idxOf]; have := HQ.out; omega
            case rel => exact ⟨rfl, n1, i1 + n1, g6, k', rs.drop cc, acc ++ p, cs6, hn1p, rfl, HM6, HT2⟩
set_option maxHeartbeats 4000000 in
set_option maxRecDepth 100000 in
/-- A CLR that is cut. -/
theorem getClr_cut (w : World) (b g c : Nat) (l : List Int) (idx : Nat) (big : Bool) (chunk : Int) (tp : TypeId) (a : Addr) (h : Ses.RS w b g c l idx big chunk) (hE : Ses.EE tp a w) (cc : Nat) (d : List Int) (hd2 : d.length ≤ 100000) (hc1 : 1 ≤ cc) (hc2 : cc ≤ 252) (hby : ∀ y ∈ l, 0 ≤ y ∧ y ≤ 255) (hc : Ses.Cut l idx (Dg.clrB big cc d)) :
    Calls Tryd.prog 70 #[.pointer (some ⟨b, 0, none⟩)] w fun e w' => e = .returned (.tuple #[.slice none 0 0, .iface tp (.pointer (some a))]) ∧ Ses.Ct b g c l big chunk w w' := by
  have hb4 := hE.ne h
  have hend : idx = l.length → Calls Tryd.prog 70 #[.pointer (some ⟨b, 0, none⟩)] w fun e w' => e = .returned (.tuple #[.slice none 0 0, .iface tp (.pointer (some a))]) ∧ Ses.Ct b g c l big chunk w w' := fun hi => by
    have HR := Lib.hid (getByte_end w b g c l idx big chunk tp a h hE hi)
    have HI : Hid (idx ≤ l.length) := Lib.hid (by omega)
    clear h hE hi hc
    go_enter Tryd.func70, Tryd.ntmps70
    go_wp2_with (go_at_call 68; (with_reducible refine HR.out.mono ?_); rintro e w1 ⟨rfl, hrs, hg⟩; have HRS := Lib.hid hrs; have HG := Lib.hid hg; clear hrs hg)
    go_ret2
    exact ⟨rfl, idx, HI.out, HRS.out, HG.out⟩
  unfold Dg.clrB at hc
  by_cases hs : d.length ≤ 252
  · rw [if_pos hs] at hc
    rcases hc.cons with hi | ⟨q0, q1, q2⟩
    · exact hend hi
    · clear hend
      have hgb := getByte_ok w b g c l idx big chunk h q0
      rw [q1] at hgb
      have HR := Lib.hid hgb
      have hsh := q2.short
      have hd0 : 0 < d.length := by
        rcases Nat.eq_zero_or_pos d.length with h0 | h0
        · rw [List.eq_nil_of_length_eq_zero h0] at q2
          exact (Ses.Cut.nil q2).elim
        · exact h0
      obtain ⟨k, hk⟩ : ∃ k, k = d.length := ⟨_, rfl⟩
      rw [← hk] at hsh HR hs hd0
      have HY := Lib.hid (fun (W : World) (hw : Ses.RS W b g c l (idx + 1) big chunk ∧ w.grownBy W (some b)) => getBytes_end W b g c l (idx + 1) big chunk tp a hw.1 (hE.grown hw.2 hb4) k hsh (by omega) (by omega))
      have HI : Hid (idx + 1 ≤ l.length) := Lib.hid (by omega)
      have kw : IntKind.i64.wrap (k : Int) = (k : Int) := (IntKind.wrap_i64 _).trans (by omega)
      have k1 : ((k : Int) == 0) = false := beq_eq_false_iff_ne.2 (by omega)
      have k2 : ((k : Int) == 253) = false := beq_eq_false_iff_ne.2 (by omega)
      have k3 : ((k : Int) == 255) = false := beq_eq_false_iff_ne.2 (by omega)
      have k4 : ((k : Int) == 254) = false := beq_eq_false_iff_ne.2 (by omega)
      have j1 : decide ((k : Int) = 0) = false := decide_eq_false (by omega)
      have j2 : decide ((k : Int) = 253) = false := decide_eq_false (by omega)
      have j3 : decide ((k : Int) = 255) = false := decide_eq_false (by omega)
      have j4 : decide ((k : Int) = 254) = false := decide_eq_false (by omega)
      clear hgb h hE hc q0 q1 q2 hk hsh hb4
      go_enter Tryd.func70, Tryd.ntmps70
      go_wp2_with (first | (go_at_call 68; (with_reducible refine HR.out.mono ?_); rintro e w1 ⟨rfl, hrs, hg⟩; have HRS := Lib.hid hrs; have HG := Lib.hid hg; clear hrs hg) | (go_at_call 69; (with_reducible refine (HY.out _ ⟨HRS.out.bl (below_alloc (Below.refl _ _) _), grown_alloc HG.out _⟩).mono ?_); rintro e w2 ⟨rfl, hrs, hg⟩; have HRT := Lib.hid hrs; have HH := Lib.hid hg; clear hrs hg))
      go_ret2
      exact ⟨rfl, idx + 1, HI.out, HRT.out, grown_trans (grown_alloc HG.out _) HH.out⟩
  · rw [if_neg hs] at hc
    rcases hc.cons with hi | ⟨q0, q1, q2⟩
    · exact hend hi
    · exact getClr_cutLong w b g c l idx big chunk tp a h hE cc d (by omega) hd2 hc1 hc2 hby q0 q1 q2
end Go.Proofs.YtdnahdddkagfhaaDoor.X
