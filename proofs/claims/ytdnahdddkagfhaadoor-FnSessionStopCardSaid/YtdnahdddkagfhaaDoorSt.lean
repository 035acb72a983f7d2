/- The law FnSessionStop: its walk. -/
import Derived.Test.YtdnahdddkagfhaaDoorSp
import Derived.Test.YtdnahdddkagfhaaDoorSe
import Derived.Test.YtdnahdddkagfhaaDoorSs
namespace Go.Proofs.YtdnahdddkagfhaaDoor.X
open Go.RowKit Go.Proofs.YtdnahdddkagfhaaDoorW.PrintWords Go.Proofs.YtdnahdddkagfhaaDoorW.PrintMore
attribute [local go_sem] setCell_drewN alloc_drewN
set_option linter.unusedVariables false
set_option linter.unusedSimpArgs false
namespace Ses
theorem tmod_k {x : Int} {n k : Nat} (hx : 0 ≤ x) (h : (k : Int) = x % (n : Int)) : x.tmod (n : Int) = (k : Int) := by rw [Int.tmod_eq_emod_of_nonneg hx, h]
/-- The bytes of a row, cell by cell. -/
theorem C_cells {w : World} {a : Addr} {l : List Int} {k : Nat} (h : Kd.C (Kd.int .u8) w (some a) l.length l) (hk : k ≤ l.length) : ∀ i : Nat, i < k → w.cell? (a.add i) = some (.int .u8 (l.getD i 0)) := by
  intro i hi
  obtain ⟨g0, o0, e, -, hc⟩ := C_base h (by omega)
  obtain rfl := Option.some.inj e
  rw [Lib.addr_add]
  exact hc i (by omega)
theorem getD_take {l : List Int} {k i : Nat} (h : i < k) : (l.take k).getD i 0 = l.getD i 0 := by
  rw [List.getD_eq_getElem?_getD, List.getD_eq_getElem?_getD, List.getElem?_take_of_lt h]
end Ses
/-- A clone of the first bytes of a row is never nil. -/
theorem clone_front (e : List Int) (k : Nat) (a : Addr) (c : Nat) (w : World) (hC : Kd.C (Kd.int .u8) w (some a) e.length e) (hk : k ≤ e.length) (hm : e.length ≤ 1000000) :
    Calls Tryd.prog 17 #[.slice (some a) k c] w fun r w' => ∃ g d, r = .returned (.slice (some ⟨g, 0, none⟩) k d) ∧ Kd.C (Kd.int .u8) w' (some ⟨g, 0, none⟩) k (e.take k) ∧ Below w.heap.size w w' := by
  have hl : (e.take k).length = k := by rw [List.length_take]; omega
  have h := Tryd.bytes_Clone_at a k c (e.take k) w hl (by omega) (fun i hi => by
    rw [Ses.getD_take hi]
    exact Ses.C_cells hC hk i hi)
  refine h.mono ?_
  rintro r w' ⟨v, rfl, hown, hne, hb⟩
  obtain ⟨g, d, rfl, -, -, -, -, hc⟩ := Ses.row_form hown hne
  refine ⟨g, d, rfl, ?_, hb⟩
  have h2 := C_of (k := .u8) (w := w') (l := e.take k) (g := g) (o := 0) (by rw [hl]; omega) (fun i hi => by
    rw [Nat.zero_add]
    exact hc i (by rw [hl] at hi; exact hi))
  rw [hl] at h2
  exact h2
noncomputable def laws_FnSessionStop.f (ps : List Ses.SP) (big : Bool) (at_ : Int) (asks : List Ses.SA) : Option Bool := open Classical in if (∀ p ∈ ps, p.wf) ∧ 0 ≤ at_ ∧ at_ ≤ 65535 ∧ (∀ p ∈ asks, p.wf) then some true else none
set_option maxHeartbeats 16000000 in
set_option maxRecDepth 100000 in
theorem laws_FnSessionStop.calls (A0 : Option Addr) (c0 : Nat) (ps : List Ses.SP) (big : Bool) (at_ : Int) (A1 : Option Addr) (cq : Nat) (asks : List Ses.SA) (r : Bool) (w : World) (hr0 : Ses.spKd.C w A0 ps.length ps) (hc0 : ps.length ≤ c0) (hr1 : Ses.saKd.C w A1 asks.length asks) (hc1 : asks.length ≤ cq) (h : laws_FnSessionStop.f ps big at_ asks = some r) (hEE : ∃ tp a, Ses.EE tp a w) :
    Calls Tryd.prog 8 #[.slice A0 ps.length c0, .bool big, .int .u16 at_, .slice A1 asks.length cq] w fun e w' => e = .returned (.bool r) ∧ Below w.heap.size w w' := by
  unfold laws_FnSessionStop.f at h
  split at h
  case isFalse => cases h
  rename_i hsz
  obtain ⟨hwf, at0, at1, hwa⟩ := hsz
  obtain rfl := Option.some.inj h
  clear h
  obtain ⟨tp, ae, hE⟩ := hEE
  have infG : (Tryd.prog.info? 35).map (fun i => (i.zero, i.size, i.bytes)) = some (some (.agg #[.int .i64 0, .int .i64 0, .bool false, .bool false]), 4, 24) := by kernel_rfl
  have HR := Lib.hid hr0
  have HQ := Lib.hid hr1
  have HF11 := Lib.hid (fun (W : World) (h : Below w.heap.size w W) => zzFits11_ok ps A0 c0 W (Kd.C_below HR.out h))
  have HFit := Lib.hid (fun (W : World) (h : Below w.heap.size w W) => sessionFits_ok ps A0 c0 W (Kd.C_below HR.out h))
  have HWf := Lib.hid hwf
  have HWa := Lib.hid (show ∀ p ∈ asks, 0 ≤ p.kind ∧ p.kind ≤ 255 ∧ 0 ≤ p.size ∧ p.size ≤ 255 from fun p hp => ⟨(Ses.lit8 (hwa p hp).1).1, (Ses.lit8 (hwa p hp).1).2, (Ses.lit8 (hwa p hp).2).1, (Ses.lit8 (hwa p hp).2).2⟩)
  obtain ⟨b1, hb1⟩ : ∃ b, b = (decide ((ps.length : Int) ≤ 2147483647) && ps.all Ses.Fit) := ⟨_, rfl⟩
  obtain ⟨b2, hb2⟩ : ∃ b, b = (decide (ps.length ≤ 20) && !ps.any Ses.Long) := ⟨_, rfl⟩
  rw [← hb1] at HF11
  rw [← hb2] at HFit
  have HBb := Lib.hid hb2
  have hqm := Kd.C_max hr1
  clear hr0 hr1 hwf hwa hb1 hb2
  obtain ⟨n, hnl⟩ : ∃ n, n = ps.length := ⟨_, rfl⟩
  rw [← hnl] at HF11 HFit HBb ⊢
  have HN := Lib.hid hnl
  obtain ⟨q, hql⟩ : ∃ q, q = asks.length := ⟨_, rfl⟩
  rw [← hql] at hqm hc1 ⊢
  have HQl := Lib.hid hql
  clear hnl hql
  cases b1 with
  | false =>
    go_enter Tryd.func8, Tryd.ntmps8
    go_wp2_with (go_at_call 24; (with_reducible refine (HF11.out _ (Below.refl _ _)).mono ?_); rintro e w1 ⟨rfl, hb1⟩; have HB1 := Lib.hid hb1; clear hb1)
    go_ret
    exact ⟨rfl, HB1.out⟩
  | true =>
    by_cases hq1 : 2147483647 < q
    · have t1 : decide ((q : Int) > 2147483647) = true := decide_eq_true (by omega)
      go_enter Tryd.func8, Tryd.ntmps8
      go_wp2_with (go_at_call 24; (with_reducible refine (HF11.out _ (Below.refl _ _)).mono ?_); rintro e w1 ⟨rfl, hb1⟩; have HB1 := Lib.hid hb1; clear hb1)
      go_ret
      exact ⟨rfl, HB1.out⟩
    have t1 : decide ((q : Int) > 2147483647) = false := decide_eq_false (by omega)
    cases b2 with
    | false =>
      go_enter Tryd.func8, Tryd.ntmps8
      go_wp2_with (first | (go_at_call 24; (with_reducible refine (HF11.out _ (Below.refl _ _)).mono ?_); rintro e w1 ⟨rfl, hb1⟩; have HB1 := Lib.hid hb1; clear hb1) | (go_at_call 25; (with_reducible refine (HFit.out _ HB1.out).mono ?_); rintro e w2 ⟨rfl, hb2⟩; have HB2 := Lib.hid (bl_trans HB1.out hb2); clear hb2) | (go_at_call 14; (with_reducible refine (sessionLive_calls _).mono ?_); rintro e w19 ⟨rfl, hb19⟩; have HB19 := Lib.hid (bl_trans HB2.out hb19); clear hb19))
      go_ret
      exact ⟨rfl, HB19.out⟩
    | true =>
      by_cases hq2 : 30 < q
      · have t2 : decide ((q : Int) > 30) = true := decide_eq_true (by omega)
        go_enter Tryd.func8, Tryd.ntmps8
        go_wp2_with (first | (go_at_call 24; (with_reducible refine (HF11.out _ (Below.refl _ _)).mono ?_); rintro e w1 ⟨rfl, hb1⟩; have HB1 := Lib.hid hb1; clear hb1) | (go_at_call 25; (with_reducible refine (HFit.out _ HB1.out).mono ?_); rintro e w2 ⟨rfl, hb2⟩; have HB2 := Lib.hid (bl_trans HB1.out hb2); clear hb2) | (go_at_call 14; (with_reducible refine (sessionLive_calls _).mono ?_); rintro e w19 ⟨rfl, hb19⟩; have HB19 := Lib.hid (bl_trans HB2.out hb19); clear hb19))
        go_ret
        exact ⟨rfl, HB19.out⟩
      have t2 : decide ((q : Int) > 30) = false := decide_eq_false (by omega)
      have hb2 := HBb.out.symm
      rw [Bool.and_eq_true, Bool.not_eq_true', decide_eq_true_eq] at hb2
      obtain ⟨hn20, hlong⟩ := hb2
      have hok : ∀ p ∈ ps, Ses.SPok p := fun p hp => Ses.spok (HWf.out p hp) (by
        have := (List.any_eq_false.1 hlong) p hp
        simpa using this)
      have hfl : ∀ p ∈ ps, 0 ≤ p.flag ∧ p.flag ≤ 255 := fun p hp => Ses.lit8 (HWf.out p hp).2.2.2.1
      have hop : ∀ p ∈ ps, Ses.OkP (Ses.conv p) := fun p hp => Ses.okp_conv (hok p hp) (hfl p hp)
      obtain ⟨enc, henc⟩ : ∃ enc, enc = ps.flatMap (fun p => Ses.stepB big 64 (Ses.conv p)) := ⟨_, rfl⟩
      have hencB : Byt enc := by rw [henc]; exact Ses.msg_byt big (by decide) HWf.out
      have HPuts : Hid (∀ W : World, Below w.heap.size w W → Calls Tryd.prog 26 #[.slice A0 n c0] W fun e w' => ∃ v, e = .returned v ∧ Ses.psKd.R 29 w' W.heap.size (fun _ => True) v (ps.map Ses.conv) ∧ Below W.heap.size W w') := Lib.hid (fun W hW => by
        have h := sessionPuts_ok ps A0 c0 W (Kd.C_below HR.out hW) hok (by rw [← HN.out]; exact hn20)
        rw [← HN.out] at h
        exact h)
      have HN2 : Hid ((ps.map Ses.conv).length = n) := Lib.hid (by rw [List.length_map, ← HN.out])
      have HPut : Hid (∀ (W : World) (A : Option Addr) (c : Nat), Ses.psKd.C W A n (ps.map Ses.conv) → n ≤ c → Calls Tryd.prog 16 #[.slice A n c, .bool big, .int .i64 64] W fun e w' => ∃ v, e = .returned v ∧ Kd.R (Kd.int .u8) 5 w' W.heap.size (fun _ => True) v enc ∧ Below W.heap.size W w') := Lib.hid (fun W A c hC hle => by
        have h := sessionPut_any (ps.map Ses.conv) A c big 64 W (by rw [HN2.out]; exact hC) (by rw [HN2.out]; exact hle) (fun x hx => by
          obtain ⟨z, hz, rfl⟩ := List.mem_map.1 hx
          exact hop z hz) (by rw [HN2.out]; omega) (by decide) (by decide)
        rw [HN2.out, List.flatMap_map, ← henc] at h
        exact h)
      obtain ⟨N, hN⟩ : ∃ N, N = enc.length := ⟨_, rfl⟩
      have HNe := Lib.hid hN
      by_cases hN0 : N = 0
      · have HPut2 : Hid (∀ (W : World) (A : Option Addr) (c : Nat), Ses.psKd.C W A n (ps.map Ses.conv) → n ≤ c → Calls Tryd.prog 16 #[.slice A n c, .bool big, .int .i64 64] W fun e w' => ∃ A c, e = .returned (.slice A 0 c) ∧ Below W.heap.size W w') := Lib.hid (fun W A c hC hle => (HPut.out W A c hC hle).mono (by
          rintro e w' ⟨v, rfl, hR, hb⟩
          obtain ⟨A', c', e', -, -⟩ := Kd.R_reads hR
          rw [← HNe.out, hN0] at e'
          exact ⟨A', c', by rw [e'], hb⟩))
        clear hN hN0 henc hencB hop hok hfl hlong HPut hE
        go_enter Tryd.func8, Tryd.ntmps8
        go_wp2_with (first | (go_at_call 24; (with_reducible refine (HF11.out _ (Below.refl _ _)).mono ?_); rintro e w1 ⟨rfl, hb1⟩; have HB1 := Lib.hid hb1; clear hb1) | (go_at_call 25; (with_reducible refine (HFit.out _ HB1.out).mono ?_); rintro e w2 ⟨rfl, hb2⟩; have HB2 := Lib.hid (bl_trans HB1.out hb2); clear hb2) | (go_at_call 26; (with_reducible refine (HPuts.out _ HB2.out).mono ?_); rintro e w3 ⟨v3, rfl, hR3, hb3⟩; obtain ⟨A3, c3, e3, hle3, hC3⟩ := Kd.R_reads hR3; (rw [HN2.out] at e3 hle3 hC3); subst e3; have HC3 := Lib.hid hC3; have HB3 := Lib.hid (bl_trans HB2.out hb3); clear hR3 hC3 hb3) | (go_at_call 16; (with_reducible refine (HPut2.out _ _ _ HC3.out hle3).mono ?_); rintro e w4 ⟨A4, c4, rfl, hb4⟩; have HB4 := Lib.hid (bl_trans HB3.out hb4); clear hb4) | (go_at_call 14; (with_reducible refine (sessionLive_calls _).mono ?_); rintro e w19 ⟨rfl, hb19⟩; have HB19 := Lib.hid (bl_trans HB4.out hb19); clear hb19))
        go_ret
        exact ⟨rfl, HB19.out⟩
      · have hNp : 0 < N := by omega
        have hNm : N ≤ 1000000 := by
          rw [hN, henc]
          exact Ses.msg_len big (by decide) hok hop (by rw [← HN.out]; exact hn20)
        obtain ⟨k, hk⟩ : ∃ k : Nat, (k : Int) = at_ % (N : Int) := ⟨(at_ % (N : Int)).toNat, Int.toNat_of_nonneg (Int.emod_nonneg _ (by omega))⟩
        have hkn : k < N := by have := Int.emod_lt_of_pos at_ (show (0 : Int) < (N : Int) by omega); omega
        have hcut := Ses.cut_take (e := enc) (k := k) (by omega)
        obtain ⟨t, p0, ht, hpre, hct⟩ := Ses.cut_parts (fun p => Ses.stepB big 64 (Ses.conv p)) ps (enc.take k) 0 (by rw [← henc]; exact hcut)
        simp only [Nat.zero_add] at hpre hct
        have htn : t < ps.length := (List.getElem?_eq_some_iff.1 ht).1
        have hlk : (enc.take k).length = k := by rw [List.length_take]; omega
        obtain ⟨s, hs⟩ : ∃ s, s = n + q := ⟨_, rfl⟩
        have hl1 : (ps.map Ses.gsOf).length = n := by rw [List.length_map, ← HN.out]
        have hl2 : (ps.map Ses.gsOf ++ asks.map Ses.saOf).length = s := by rw [List.length_append, List.length_map, List.length_map, ← HN.out, ← HQl.out, hs]
        have HL2 := Lib.hid hl2
        have HL1 := Lib.hid hl1
        have HGets1 : Hid (∀ W : World, Below w.heap.size w W → Calls Tryd.prog 27 #[.slice A0 n c0] W fun e w' => ∃ A c, e = .returned (.slice A n c) ∧ n ≤ c ∧ Ses.gsKd.C w' A n (ps.map Ses.gsOf) ∧ Below W.heap.size W w') := Lib.hid (fun W hW => by
          have h := sessionGets_ok ps A0 c0 W (Kd.C_below HR.out hW) hok (by rw [← HN.out]; exact hn20)
          rw [← HN.out] at h
          refine h.mono ?_
          rintro e w' ⟨v, rfl, hR, hb⟩
          obtain ⟨A, c, e', h1, h2⟩ := Kd.R_reads hR
          rw [hl1] at e' h1 h2
          exact ⟨A, c, by rw [e'], h1, h2, hb⟩)
        have HGets2 : Hid (∀ W : World, Below w.heap.size w W → Calls Tryd.prog 27 #[.slice A0 n c0] W fun e w' => ∃ v, e = .returned v ∧ Ses.gsKd.R 35 w' W.heap.size (fun _ => True) v (ps.map Ses.gsOf) ∧ Below W.heap.size W w') := Lib.hid (fun W hW => by
          have h := sessionGets_ok ps A0 c0 W (Kd.C_below HR.out hW) hok (by rw [← HN.out]; exact hn20)
          rw [← HN.out] at h
          exact h)
        have HAsks : Hid (∀ W : World, Below w.heap.size w W → Calls Tryd.prog 28 #[.slice A1 q cq] W fun e w' => ∃ A c, e = .returned (.slice A q c) ∧ Ses.gsKd.C w' A q (asks.map Ses.saOf) ∧ Below W.heap.size W w') := Lib.hid (fun W hW => by
          have h := sessionAsks_ok asks A1 cq W (Kd.C_below HQ.out hW) HWa.out (by rw [← HQl.out]; omega)
          rw [← HQl.out] at h
          refine h.mono ?_
          rintro e w' ⟨v, rfl, hR, hb⟩
          obtain ⟨A, c, e', h1, h2⟩ := Kd.R_reads hR
          rw [List.length_map, ← HQl.out] at e' h1 h2
          exact ⟨A, c, by rw [e'], h2, hb⟩)
        have HGet1 : Hid (∀ (W : World) (g c : Nat) (A2 : Option Addr) (c2 : Nat), Below w.heap.size w W → Kd.C (Kd.int .u8) W (some ⟨g, 0, none⟩) k (enc.take k) → Ses.gsKd.C W A2 n (ps.map Ses.gsOf) → n ≤ c2 → Calls Tryd.prog 18 #[.slice (some ⟨g, 0, none⟩) k c, .slice A2 n c2, .bool big] W fun e w' => ∃ g o c v2, e = .returned (.tuple #[.slice (some ⟨g, o, none⟩) (t + 1) c, v2]) ∧ t + 1 ≤ c ∧ Ses.gtKd.C w' (some ⟨g, o, none⟩) (t + 1) (Ses.outsOf ps t) ∧ w'.cell? ⟨g, o + t * 5, none⟩ = some (.bool false) ∧ Below W.heap.size W w') := Lib.hid (fun W g c A2 c2 hW hC hS hle => by
          have h := Ses.get_cut ps (ps.map Ses.gsOf) (fun j q hq => by rw [List.getElem?_map, hq]; rfl) big 64 (by decide) (by decide) hok hop (enc.take k) (by omega) (fun x hx => hencB x (List.mem_of_mem_take hx)) (by rw [hl1]; omega) t p0 ht hpre hct tp ae W (hE.bl hW) ⟨g, 0, none⟩ c A2 c2 (by rw [hlk]; exact hC) (by rw [hl1]; exact hS) (by rw [hl1]; exact hle)
          rw [hlk, hl1] at h
          refine h.mono ?_
          rintro e w' ⟨v, v2, rfl, hR, hb⟩
          obtain ⟨A, c', e', h1, h2⟩ := Kd.R_reads hR
          obtain ⟨g1, o1, rfl, -, hel⟩ := Kd.C_head h2 (by decide) (by rw [Ses.outs_len htn]; omega)
          rw [Ses.outs_len htn] at e' h1 h2
          obtain ⟨cl, -, hK, hc⟩ := hel t _ (Ses.outs_eq htn)
          obtain ⟨B1, d1, B2, d2, rfl, -, -, -, -⟩ := Ses.gt_cells hK
          exact ⟨g1, o1, c', v2, by rw [e'], h1, h2, hc 0 _ rfl, hb⟩)
        have HGet2 : Hid (∀ (W : World) (g c : Nat) (A2 : Option Addr) (c2 : Nat), Below w.heap.size w W → Kd.C (Kd.int .u8) W (some ⟨g, 0, none⟩) k (enc.take k) → Ses.gsKd.C W A2 s (ps.map Ses.gsOf ++ asks.map Ses.saOf) → s ≤ c2 → Calls Tryd.prog 18 #[.slice (some ⟨g, 0, none⟩) k c, .slice A2 s c2, .bool big] W fun e w' => ∃ g o c v2, e = .returned (.tuple #[.slice (some ⟨g, o, none⟩) (t + 1) c, v2]) ∧ t + 1 ≤ c ∧ Ses.gtKd.C w' (some ⟨g, o, none⟩) (t + 1) (Ses.outsOf ps t) ∧ w'.cell? ⟨g, o + t * 5, none⟩ = some (.bool false) ∧ Below W.heap.size W w') := Lib.hid (fun W g c A2 c2 hW hC hS hle => by
          have h := Ses.get_cut ps (ps.map Ses.gsOf ++ asks.map Ses.saOf) (fun j q hq => by rw [List.getElem?_append_left (by rw [List.length_map]; exact (List.getElem?_eq_some_iff.1 hq).1), List.getElem?_map, hq]; rfl) big 64 (by decide) (by decide) hok hop (enc.take k) (by omega) (fun x hx => hencB x (List.mem_of_mem_take hx)) (by rw [hl2]; omega) t p0 ht hpre hct tp ae W (hE.bl hW) ⟨g, 0, none⟩ c A2 c2 (by rw [hlk]; exact hC) (by rw [hl2]; exact hS) (by rw [hl2]; exact hle)
          rw [hlk, hl2] at h
          refine h.mono ?_
          rintro e w' ⟨v, v2, rfl, hR, hb⟩
          obtain ⟨A, c', e', h1, h2⟩ := Kd.R_reads hR
          obtain ⟨g1, o1, rfl, -, hel⟩ := Kd.C_head h2 (by decide) (by rw [Ses.outs_len htn]; omega)
          rw [Ses.outs_len htn] at e' h1 h2
          obtain ⟨cl, -, hK, hc⟩ := hel t _ (Ses.outs_eq htn)
          obtain ⟨B1, d1, B2, d2, rfl, -, -, -, -⟩ := Ses.gt_cells hK
          exact ⟨g1, o1, c', v2, by rw [e'], h1, h2, hc 0 _ rfl, hb⟩)
        have HEqF : Hid (∀ (W : World) (A B : Option Addr) (c d : Nat), Ses.gtKd.C W A (t + 1) (Ses.outsOf ps t) → Ses.gtKd.C W B (t + 1) (Ses.outsOf ps t) → Calls Tryd.prog 29 #[.slice A (t + 1) c, .slice B (t + 1) d, .func (.func 30) #[] #[]] W fun e w' => e = .returned (.bool true) ∧ Below W.heap.size W w') := Lib.hid (fun W A B c d h1 h2 => equalFunc_same (Ses.outsOf ps t) A B c d (t + 1) W (by rw [Ses.outs_len htn]; exact h1) (by rw [Ses.outs_len htn]; exact h2) (Ses.outs_len htn))
        have HCl1 : Hid (∀ (W : World) (a : Addr) (c : Nat), Kd.C (Kd.int .u8) W (some a) N enc → Calls Tryd.prog 17 #[.slice (some a) k c] W fun r w' => ∃ g d, r = .returned (.slice (some ⟨g, 0, none⟩) k d) ∧ Kd.C (Kd.int .u8) w' (some ⟨g, 0, none⟩) k (enc.take k) ∧ Below W.heap.size W w') := Lib.hid (fun W a c hC => clone_front enc k a c W (by rw [← hN]; exact hC) (by omega) (by omega))
        have HCl2 := HCl1
        have HPut2 : Hid (∀ (W : World) (A : Option Addr) (c : Nat), Ses.psKd.C W A n (ps.map Ses.conv) → n ≤ c → Calls Tryd.prog 16 #[.slice A n c, .bool big, .int .i64 64] W fun e w' => ∃ a c, e = .returned (.slice (some a) N c) ∧ N ≤ c ∧ Kd.C (Kd.int .u8) w' (some a) N enc ∧ Below W.heap.size W w') := Lib.hid (fun W A c hC hle => (HPut.out W A c hC hle).mono (by
          rintro e w' ⟨v, rfl, hR, hb⟩
          obtain ⟨g, c', rfl, -, -, -⟩ := Kd.R_form hR (by omega)
          obtain ⟨h1, h2, h3⟩ := Kd.R_reads' hR
          rw [← hN] at h2 h3
          exact ⟨⟨g, 0, none⟩, c', by rw [← hN], h2, h3, hb⟩))
        have hrem : at_.tmod (N : Int) = (k : Int) := Ses.tmod_k at0 hk
        have hmod : at_ % (N : Int) = (k : Int) := hk.symm
        have hwk : IntKind.i64.wrap (at_.tmod (N : Int)) = (k : Int) := by rw [hrem]; exact (IntKind.wrap_i64 _).trans (by omega)
        have hwk2 : IntKind.i64.wrap (k : Int) = (k : Int) := (IntKind.wrap_i64 _).trans (by omega)
        have hwat : IntKind.i64.wrap at_ = at_ := (IntKind.wrap_i64 _).trans (by omega)
        have d0 : decide ((N : Int) = 0) = false := decide_eq_false (by omega)
        have d1 : ((N : Int) == 0) = false := beq_eq_false_iff_ne.2 (by omega)
        have d2 : ¬ (N : Int) = 0 := by omega
        have hkI : (k : Int) ≤ (N : Int) := by omega
        have hk0 : (0 : Int) ≤ (k : Int) := Int.natCast_nonneg _
        have ht0 : (0 : Int) ≤ (t : Int) := Int.natCast_nonneg _
        have htn2 : t < n := by rw [HN.out]; exact htn
        have c1 : decide (((t + 1 : Nat) : Int) > 0) = true := decide_eq_true (by omega)
        have c2 : decide ((t : Int) + 1 > 0) = true := decide_eq_true (by omega)
        have hw1 : IntKind.i64.wrap (((t + 1 : Nat) : Int) - 1) = (t : Int) := (IntKind.wrap_i64 _).trans (by omega)
        have hw2 : IntKind.i64.wrap ((t : Int) + 1 - 1) = (t : Int) := (IntKind.wrap_i64 _).trans (by omega)
        have hw3 : IntKind.i64.wrap (t : Int) = (t : Int) := (IntKind.wrap_i64 _).trans (by omega)
        have htI : (t : Int) < (t : Int) + 1 := by omega
        have hsI : n ≤ s ∧ s ≤ 50 := by omega
        clear hcut hpre hct ht htn hlk henc hencB hop hok hfl hlong HPut hE hN hk hN0 hl1 hl2 hs
        go_enter Tryd.func8, Tryd.ntmps8
        go_wp2_with (first
          | (go_at_call 24; (with_reducible refine (HF11.out _ (Below.refl _ _)).mono ?_); rintro e w1 ⟨rfl, hb1⟩; have HB1 := Lib.hid hb1; clear hb1)
          | (go_at_call 25; (with_reducible refine (HFit.out _ HB1.out).mono ?_); rintro e w2 ⟨rfl, hb2⟩; have HB2 := Lib.hid (bl_trans HB1.out hb2); clear hb2)
          | (go_at_call 26; (with_reducible refine (HPuts.out _ HB2.out).mono ?_); rintro e w3 ⟨v3, rfl, hR3, hb3⟩; obtain ⟨A3, c3, e3, hle3, hC3⟩ := Kd.R_reads hR3; (rw [HN2.out] at e3 hle3 hC3); subst e3; have HC3 := Lib.hid hC3; have HB3 := Lib.hid (bl_trans HB2.out hb3); clear hR3 hC3 hb3)
          | (go_at_call 16; (with_reducible refine (HPut2.out _ _ _ HC3.out hle3).mono ?_); rintro e w4 ⟨a4, c4, rfl, hle4, hC4, hb4⟩; have HC4 := Lib.hid hC4; have HB4 := Lib.hid (bl_trans HB3.out hb4); (have hkc : (k : Int) ≤ (c4 : Int) := by omega); (have hkc2 : k ≤ c4 := by omega); clear hC4 hb4)
          | (go_at_call 17; (with_reducible refine (HCl1.out _ _ _ HC4.out).mono ?_); rintro e w5 ⟨g5, c5, rfl, hC5, hb5⟩; have HC5 := Lib.hid hC5; have HC4a := Lib.hid (Kd.C_below HC4.out hb5); have HB5 := Lib.hid (bl_trans HB4.out hb5); clear hC5 hb5 HCl1)
          | (go_at_call 27; (with_reducible refine (HGets1.out _ HB5.out).mono ?_); rintro e w6 ⟨A6, c6, rfl, hle6, hC6, hb6⟩; have HC6 := Lib.hid hC6; have HC5b := Lib.hid (Kd.C_below HC5.out hb6); have HC4b := Lib.hid (Kd.C_below HC4a.out hb6); have HB6 := Lib.hid (bl_trans HB5.out hb6); clear hC6 hb6 HGets1)
          | (go_at_call 18; (with_reducible refine (HGet1.out _ _ _ _ _ HB6.out HC5b.out HC6.out hle6).mono ?_); rintro e w7 ⟨g7, o7, c7, v7, rfl, hle7, hC7, z7, hb7⟩; have HC7 := Lib.hid hC7; have HC4c := Lib.hid (Kd.C_below HC4b.out hb7); have HB7 := Lib.hid (bl_trans HB6.out hb7); clear hC7 hb7 HGet1)
          | (go_at_call 17; (with_reducible refine (HCl2.out _ _ _ HC4c.out).mono ?_); rintro e w8 ⟨g8, c8, rfl, hC8, hb8⟩; have HC8 := Lib.hid hC8; have HC7a := Lib.hid (Kd.C_below HC7.out hb8); have z8 := bl_cell hb8 z7; have HB8 := Lib.hid (bl_trans HB7.out hb8); clear hC8 hb8)
          | (go_at_call 27; (with_reducible refine (HGets2.out _ HB8.out).mono ?_); rintro e w9 ⟨v9, rfl, hR9, hb9⟩; have HR9 := Lib.hid hR9; have HB89 := Lib.hid hb9; clear hR9 hb9)
          | (go_at_call 28; (with_reducible refine (HAsks.out _ (bl_trans HB8.out HB89.out)).mono ?_); rintro e w10 ⟨A10, c10, rfl, hC10, hb10⟩; have HC10 := Lib.hid hC10; have HR10 := Lib.hid (Kd.R_below HR9.out hb10); have HB810 := Lib.hid (bl_trans HB89.out hb10); clear hC10 hb10)
          | ((with_reducible refine gate_builtin (b := .append) (xs := #[.tmp 60, .tmp 62]) rfl ?_); at_builtin; refine Kd.R_append_rows Ses.gsKd (Rr := Ses.gsKd.K w10) (w0 := w8) w8.heap.size rfl (.tmp 60) (.tmp 62) 36 35 _ 24 rfl Tryd.underlying36 infG rfl (by decide) (by decide) v9 (ps.map Ses.gsOf) (asks.map Ses.saOf) A10 q c10 (fun _ => True) (fun _ => False) ?aV ?aX ?aO ?aR ?aK (fun k hk => absurd hk id) (fun _ _ => trivial) ?aB ?aS ?aL ?_; (case aV => exact rfl); (case aX => exact rfl); (case aO => exact HR10.out); (case aR => exact HC10.out); (case aK => exact fun x cs h => by rw [Ses.gs_open h]; exact Ses.gs_makeA _ _ _ _); (case aB => exact HB810.out); (case aS => exact HB810.out.size); (case aL => (rw [HL1.out]; omega)); intro v11 w11 ho hb hg hat; obtain ⟨A11, c11, e11, hle11, hC11⟩ := Kd.R_reads ho; (rw [HL2.out] at e11 hle11 hC11); subst e11; have HC11 := Lib.hid hC11; have HC8b := Lib.hid (Kd.C_below HC8.out hb); have HC7b := Lib.hid (Kd.C_below HC7a.out hb); have z11 := bl_cell hb z8; have HB11 := Lib.hid (bl_trans HB8.out hb); clear ho hb hg hat hC11)
          | (go_at_call 18; (with_reducible refine (HGet2.out _ _ _ _ _ HB11.out HC8b.out HC11.out hle11).mono ?_); rintro e w12 ⟨g12, o12, c12, v12, rfl, hle12, hC12, -, hb12⟩; have HC12 := Lib.hid hC12; have HC7c := Lib.hid (Kd.C_below HC7b.out hb12); have z12 := bl_cell hb12 z11; have HB12 := Lib.hid (bl_trans HB11.out hb12); clear hC12 hb12)
          | (go_at_call 29; (with_reducible refine (HEqF.out _ _ _ _ _ HC7c.out HC12.out).mono ?_); rintro e w13 ⟨rfl, hb13⟩; have z13 := bl_cell hb13 z12; have HB13 := Lib.hid (bl_trans HB12.out hb13); clear hb13)
          | (go_at_call 14; (with_reducible refine (sessionLive_calls _).mono ?_); rintro e w19 ⟨rfl, hb19⟩; have HB19 := Lib.hid (bl_trans HB13.out hb19); clear hb19))
        go_ret
        exact ⟨rfl, HB19.out⟩
end Go.Proofs.YtdnahdddkagfhaaDoor.X
