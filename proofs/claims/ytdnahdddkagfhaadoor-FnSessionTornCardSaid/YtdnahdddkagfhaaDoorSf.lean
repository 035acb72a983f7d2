/- The law FnSessionTorn: its walk. -/
import Derived.Test.YtdnahdddkagfhaaDoorSp
import Derived.Test.YtdnahdddkagfhaaDoorSe
import Derived.Test.YtdnahdddkagfhaaDoorSk
namespace Go.Proofs.YtdnahdddkagfhaaDoor.X
open Go.RowKit Go.Proofs.YtdnahdddkagfhaaDoorW.PrintWords Go.Proofs.YtdnahdddkagfhaaDoorW.PrintMore
attribute [local go_sem] setCell_drewN alloc_drewN
set_option linter.unusedVariables false
set_option linter.unusedSimpArgs false
namespace Ses
theorem tmod_k {x : Int} {n k : Nat} (hx : 0 ≤ x) (h : (k : Int) = x % (n : Int)) : x.tmod (n : Int) = (k : Int) := by rw [Int.tmod_eq_emod_of_nonneg hx, h]
/-- The bytes of a row, cell by cell. -/
theorem C_cells {w : World} {a : Addr} {l : List Int} {k : Nat} (h : Kd.C (Kd.int .u8) w (some a) l.length l) (hk : k ≤ l.length) : ∀ i : Nat, i < k → w.cell? (a.add i) = some (.int .u8 (l.getD i 0)) := by
  intro i hi
  obtain ⟨g0, o0, e, -, hc⟩ := C_base h (by omega)
  obtain rfl := Option.some.inj e
  rw [Lib.addr_add]
  exact hc i (by omega)
theorem getD_take {l : List Int} {k i : Nat} (h : i < k) : (l.take k).getD i 0 = l.getD i 0 := by
  rw [List.getD_eq_getElem?_getD, List.getD_eq_getElem?_getD, List.getElem?_take_of_lt h]
theorem outs_take {ps : List SP} {t : Nat} (h : t < ps.length) : (outsOf ps t).take t = (ps.map gotOf).take t := by
  unfold outsOf
  rw [List.take_append_of_le_length (by rw [List.length_map, List.length_take]; omega), List.map_take, List.take_take, Nat.min_self]
end Ses
set_option maxHeartbeats 400000 in
theorem sessionChunk_of (k : Int) (w : World) (h0 : 0 ≤ k) (h1 : k ≤ 255) : Calls Tryd.prog 15 #[.int .u8 k] w fun e w' => e = .returned (.int .i64 (k % 252 + 1)) ∧ w' = w := by
  have pw : IntKind.i64.wrap k = k := (IntKind.wrap_i64 _).trans (by omega)
  go_enter Tryd.func15, Tryd.ntmps15
  go_wp2
  go_ret
  exact ⟨rfl, rfl⟩
/-- A clone of the first bytes of a row is never nil. -/
theorem clone_front (e : List Int) (k : Nat) (a : Addr) (c : Nat) (w : World) (hC : Kd.C (Kd.int .u8) w (some a) e.length e) (hk : k ≤ e.length) (hm : e.length ≤ 1000000) :
    Calls Tryd.prog 17 #[.slice (some a) k c] w fun r w' => ∃ g d, r = .returned (.slice (some ⟨g, 0, none⟩) k d) ∧ Kd.C (Kd.int .u8) w' (some ⟨g, 0, none⟩) k (e.take k) ∧ Below w.heap.size w w' := by
  have hl : (e.take k).length = k := by rw [List.length_take]; omega
  have h := Tryd.bytes_Clone_at a k c (e.take k) w hl (by omega) (fun i hi => by
    rw [Ses.getD_take hi]
    exact Ses.C_cells hC hk i hi)
  refine h.mono ?_
  rintro r w' ⟨v, rfl, hown, hne, hb⟩
  obtain ⟨g, d, rfl, -, -, -, -, hc⟩ := Ses.row_form hown hne
  refine ⟨g, d, rfl, ?_, hb⟩
  have h2 := C_of (k := .u8) (w := w') (l := e.take k) (g := g) (o := 0) (by rw [hl]; omega) (fun i hi => by
    rw [Nat.zero_add]
    exact hc i (by rw [hl] at hi; exact hi))
  rw [hl] at h2
  exact h2
noncomputable def laws_FnSessionTorn.f (ps : List Ses.SP) (big : Bool) (chunk at_ : Int) : Option Bool := open Classical in if (∀ p ∈ ps, p.wf) ∧ 0 ≤ chunk ∧ chunk ≤ 255 ∧ 0 ≤ at_ ∧ at_ ≤ 65535 then some true else none
set_option maxHeartbeats 16000000 in
set_option maxRecDepth 100000 in
theorem laws_FnSessionTorn.calls (A0 : Option Addr) (c0 : Nat) (ps : List Ses.SP) (big : Bool) (chunk at_ : Int) (r : Bool) (w : World) (hr0 : Ses.spKd.C w A0 ps.length ps) (hc0 : ps.length ≤ c0) (h : laws_FnSessionTorn.f ps big chunk at_ = some r) (hEE : ∃ tp a, Ses.EE tp a w) :
    Calls Tryd.prog 9 #[.slice A0 ps.length c0, .bool big, .int .u8 chunk, .int .u16 at_] w fun e w' => e = .returned (.bool r) ∧ Below w.heap.size w w' := by
  unfold laws_FnSessionTorn.f at h
  split at h
  case isFalse => cases h
  rename_i hsz
  obtain ⟨hwf, k0, k1, at0, at1⟩ := hsz
  obtain rfl := Option.some.inj h
  clear h
  obtain ⟨tp, ae, hE⟩ := hEE
  have HR := Lib.hid hr0
  have HF11 := Lib.hid (fun (W : World) (h : Below w.heap.size w W) => zzFits11_ok ps A0 c0 W (Kd.C_below HR.out h))
  have HFit := Lib.hid (fun (W : World) (h : Below w.heap.size w W) => sessionFits_ok ps A0 c0 W (Kd.C_below HR.out h))
  have HCh := Lib.hid (fun W => sessionChunk_of chunk W k0 k1)
  have HWf := Lib.hid hwf
  obtain ⟨b1, hb1⟩ : ∃ b, b = (decide ((ps.length : Int) ≤ 2147483647) && ps.all Ses.Fit) := ⟨_, rfl⟩
  obtain ⟨b2, hb2⟩ : ∃ b, b = (decide (ps.length ≤ 20) && !ps.any Ses.Long) := ⟨_, rfl⟩
  rw [← hb1] at HF11
  rw [← hb2] at HFit
  have HBb := Lib.hid hb2
  clear hr0 hwf hb1 hb2
  obtain ⟨n, hnl⟩ : ∃ n, n = ps.length := ⟨_, rfl⟩
  rw [← hnl] at HF11 HFit HBb ⊢
  have HN := Lib.hid hnl
  clear hnl
  cases b1 with
  | false =>
    go_enter Tryd.func9, Tryd.ntmps9
    go_wp2_with (go_at_call 24; (with_reducible refine (HF11.out _ (Below.refl _ _)).mono ?_); rintro e w1 ⟨rfl, hb1⟩; have HB1 := Lib.hid hb1; clear hb1)
    go_ret
    exact ⟨rfl, HB1.out⟩
  | true =>
    cases b2 with
    | false =>
      go_enter Tryd.func9, Tryd.ntmps9
      go_wp2_with (first | (go_at_call 24; (with_reducible refine (HF11.out _ (Below.refl _ _)).mono ?_); rintro e w1 ⟨rfl, hb1⟩; have HB1 := Lib.hid hb1; clear hb1) | (go_at_call 25; (with_reducible refine (HFit.out _ HB1.out).mono ?_); rintro e w2 ⟨rfl, hb2⟩; have HB2 := Lib.hid (bl_trans HB1.out hb2); clear hb2) | (go_at_call 14; (with_reducible refine (sessionLive_calls _).mono ?_); rintro e w19 ⟨rfl, hb19⟩; have HB19 := Lib.hid (bl_trans HB2.out hb19); clear hb19))
      go_ret
      exact ⟨rfl, HB19.out⟩
    | true =>
      have hb2 := HBb.out.symm
      rw [Bool.and_eq_true, Bool.not_eq_true', decide_eq_true_eq] at hb2
      obtain ⟨hn20, hlong⟩ := hb2
      have hok : ∀ p ∈ ps, Ses.SPok p := fun p hp => Ses.spok (HWf.out p hp) (by
        have := (List.any_eq_false.1 hlong) p hp
        simpa using this)
      have hfl : ∀ p ∈ ps, 0 ≤ p.flag ∧ p.flag ≤ 255 := fun p hp => Ses.lit8 (HWf.out p hp).2.2.2.1
      have hop : ∀ p ∈ ps, Ses.OkP (Ses.conv p) := fun p hp => Ses.okp_conv (hok p hp) (hfl p hp)
      obtain ⟨m, hm⟩ : ∃ m : Nat, chunk % 252 + 1 = (m : Int) := ⟨(chunk % 252 + 1).toNat, by omega⟩
      have hm1 : 1 ≤ m := by omega
      have hm2 : m ≤ 252 := by omega
      rw [hm] at HCh
      obtain ⟨enc, henc⟩ : ∃ enc, enc = ps.flatMap (fun p => Ses.stepB big m (Ses.conv p)) := ⟨_, rfl⟩
      have hencB : Byt enc := by rw [henc]; exact Ses.msg_byt big hm2 HWf.out
      have HPuts : Hid (∀ W : World, Below w.heap.size w W → Calls Tryd.prog 26 #[.slice A0 n c0] W fun e w' => ∃ v, e = .returned v ∧ Ses.psKd.R 29 w' W.heap.size (fun _ => True) v (ps.map Ses.conv) ∧ Below W.heap.size W w') := Lib.hid (fun W hW => by
        have h := sessionPuts_ok ps A0 c0 W (Kd.C_below HR.out hW) hok (by rw [← HN.out]; exact hn20)
        rw [← HN.out] at h
        exact h)
      have HN2 : Hid ((ps.map Ses.conv).length = n) := Lib.hid (by rw [List.length_map, ← HN.out])
      have HPut : Hid (∀ (W : World) (A : Option Addr) (c : Nat), Ses.psKd.C W A n (ps.map Ses.conv) → n ≤ c → Calls Tryd.prog 16 #[.slice A n c, .bool big, .int .i64 m] W fun e w' => ∃ v, e = .returned v ∧ Kd.R (Kd.int .u8) 5 w' W.heap.size (fun _ => True) v enc ∧ Below W.heap.size W w') := Lib.hid (fun W A c hC hle => by
        have h := sessionPut_any (ps.map Ses.conv) A c big m W (by rw [HN2.out]; exact hC) (by rw [HN2.out]; exact hle) (fun x hx => by
          obtain ⟨z, hz, rfl⟩ := List.mem_map.1 hx
          exact hop z hz) (by rw [HN2.out]; omega) hm1 hm2
        rw [HN2.out, List.flatMap_map, ← henc] at h
        exact h)
      obtain ⟨N, hN⟩ : ∃ N, N = enc.length := ⟨_, rfl⟩
      have HNe := Lib.hid hN
      by_cases hN0 : N = 0
      · have d0 : decide ((N : Int) = 0) = true := decide_eq_true (by omega)
        have d1 : ((N : Int) == 0) = true := beq_iff_eq.2 (by omega)
        have HPut2 : Hid (∀ (W : World) (A : Option Addr) (c : Nat), Ses.psKd.C W A n (ps.map Ses.conv) → n ≤ c → Calls Tryd.prog 16 #[.slice A n c, .bool big, .int .i64 m] W fun e w' => ∃ A c, e = .returned (.slice A 0 c) ∧ Below W.heap.size W w') := Lib.hid (fun W A c hC hle => (HPut.out W A c hC hle).mono (by
          rintro e w' ⟨v, rfl, hR, hb⟩
          obtain ⟨A', c', e', -, -⟩ := Kd.R_reads hR
          rw [← HNe.out, hN0] at e'
          exact ⟨A', c', by rw [e'], hb⟩))
        clear hN hN0 d0 d1 henc hencB hop hok hfl hlong HPut hE
        go_enter Tryd.func9, Tryd.ntmps9
        go_wp2_with (first | (go_at_call 24; (with_reducible refine (HF11.out _ (Below.refl _ _)).mono ?_); rintro e w1 ⟨rfl, hb1⟩; have HB1 := Lib.hid hb1; clear hb1) | (go_at_call 25; (with_reducible refine (HFit.out _ HB1.out).mono ?_); rintro e w2 ⟨rfl, hb2⟩; have HB2 := Lib.hid (bl_trans HB1.out hb2); clear hb2) | (go_at_call 26; (with_reducible refine (HPuts.out _ HB2.out).mono ?_); rintro e w3 ⟨v3, rfl, hR3, hb3⟩; obtain ⟨A3, c3, e3, hle3, hC3⟩ := Kd.R_reads hR3; (rw [HN2.out] at e3 hle3 hC3); subst e3; have HC3 := Lib.hid hC3; have HB3 := Lib.hid (bl_trans HB2.out hb3); clear hR3 hC3 hb3) | (go_at_call 15; (with_reducible refine (HCh.out _).mono ?_); rintro e w3 ⟨rfl, rfl⟩; skip) | (go_at_call 16; (with_reducible refine (HPut2.out _ _ _ HC3.out hle3).mono ?_); rintro e w4 ⟨A4, c4, rfl, hb4⟩; have HB4 := Lib.hid (bl_trans HB3.out hb4); clear hb4) | (go_at_call 14; (with_reducible refine (sessionLive_calls _).mono ?_); rintro e w19 ⟨rfl, hb19⟩; have HB19 := Lib.hid (bl_trans HB4.out hb19); clear hb19))
        go_ret
        exact ⟨rfl, HB19.out⟩
      · have hNp : 0 < N := by omega
        have hNm : N ≤ 1000000 := by
          rw [hN, henc]
          exact Ses.msg_len big hm1 hok hop (by rw [← HN.out]; exact hn20)
        obtain ⟨k, hk⟩ : ∃ k : Nat, (k : Int) = at_ % (N : Int) := ⟨(at_ % (N : Int)).toNat, Int.toNat_of_nonneg (Int.emod_nonneg _ (by omega))⟩
        have hkn : k < N := by have := Int.emod_lt_of_pos at_ (show (0 : Int) < (N : Int) by omega); omega
        have hcut := Ses.cut_take (e := enc) (k := k) (by omega)
        have hcut2 := hcut
        rw [henc] at hcut2
        rw [← henc] at hcut2
        obtain ⟨t, p0, ht, hpre, hct⟩ := Ses.cut_parts (fun p => Ses.stepB big m (Ses.conv p)) ps (enc.take k) 0 (by rw [← henc]; exact hcut)
        simp only [Nat.zero_add] at hpre hct
        have htn : t < ps.length := (List.getElem?_eq_some_iff.1 ht).1
        have hlk : (enc.take k).length = k := by rw [List.length_take]; omega
        have HGets : Hid (∀ W : World, Below w.heap.size w W → Calls Tryd.prog 27 #[.slice A0 n c0] W fun e w' => ∃ A c, e = .returned (.slice A n c) ∧ n ≤ c ∧ Ses.gsKd.C w' A n (ps.map Ses.gsOf) ∧ Below W.heap.size W w') := Lib.hid (fun W hW => by
          have h := sessionGets_ok ps A0 c0 W (Kd.C_below HR.out hW) hok (by rw [← HN.out]; exact hn20)
          rw [← HN.out] at h
          refine h.mono ?_
          rintro e w' ⟨v, rfl, hR, hb⟩
          obtain ⟨A, c, e', h1, h2⟩ := Kd.R_reads hR
          rw [List.length_map, ← HN.out] at e' h1 h2
          exact ⟨A, c, by rw [e'], h1, h2, hb⟩)
        have HGet : Hid (∀ (W : World) (g c : Nat) (A2 : Option Addr) (c2 : Nat), Below w.heap.size w W → Kd.C (Kd.int .u8) W (some ⟨g, 0, none⟩) k (enc.take k) → Ses.gsKd.C W A2 n (ps.map Ses.gsOf) → n ≤ c2 → Calls Tryd.prog 18 #[.slice (some ⟨g, 0, none⟩) k c, .slice A2 n c2, .bool big] W fun e w' => ∃ A c v2, e = .returned (.tuple #[.slice A (t + 1) c, v2]) ∧ t + 1 ≤ c ∧ Ses.gtKd.C w' A (t + 1) (Ses.outsOf ps t) ∧ Below W.heap.size W w') := Lib.hid (fun W g c A2 c2 hW hC hS hle => by
          have h := Ses.get_cut ps (ps.map Ses.gsOf) (fun j q hq => by rw [List.getElem?_map, hq]; rfl) big m hm1 hm2 hok hop (enc.take k) (by omega) (fun x hx => hencB x (List.mem_of_mem_take hx)) (by rw [List.length_map, ← HN.out]; omega) t p0 ht hpre hct tp ae W (hE.bl hW) ⟨g, 0, none⟩ c A2 c2 (by rw [hlk]; exact hC) (by rw [List.length_map, ← HN.out]; exact hS) (by rw [List.length_map, ← HN.out]; exact hle)
          rw [hlk, List.length_map, ← HN.out] at h
          refine h.mono ?_
          rintro e w' ⟨v, v2, rfl, hR, hb⟩
          obtain ⟨A, c', e', h1, h2⟩ := Kd.R_reads hR
          rw [Ses.outs_len htn] at e' h1 h2
          exact ⟨A, c', v2, by rw [e'], h1, h2, hb⟩)
        have HGo : Hid (∀ W : World, Below w.heap.size w W → Calls Tryd.prog 31 #[.slice A0 n c0] W fun e w' => ∃ B d, e = .returned (.slice B n d) ∧ n ≤ d ∧ Ses.gtKd.C w' B n (ps.map Ses.gotOf) ∧ Below W.heap.size W w') := Lib.hid (fun W hW => by
          have h := sessionGot_ok ps A0 c0 W (Kd.C_below HR.out hW) (fun x hx => ⟨hok x hx, hfl x hx⟩) (by rw [← HN.out]; exact hn20)
          rw [← HN.out] at h
          exact h)
        have HIx : Hid (∀ (W : World) (A : Option Addr) (c : Nat), Ses.gtKd.C W A (t + 1) (Ses.outsOf ps t) → Calls Tryd.prog 32 #[.slice A (t + 1) c, .func (.func 33) #[] #[]] W fun e w' => e = .returned (.int .i64 t) ∧ Below W.heap.size W w') := Lib.hid (fun W A c hC => indexFunc_ok (Ses.outsOf ps t) A c t W (by rw [Ses.outs_len htn]; exact hC) (Ses.outs_len htn) (Ses.outs_ok htn))
        have HEqF : Hid (∀ (W : World) (A B : Option Addr) (c d : Nat), Ses.gtKd.C W A (t + 1) (Ses.outsOf ps t) → Ses.gtKd.C W B n (ps.map Ses.gotOf) → Calls Tryd.prog 29 #[.slice A t c, .slice B t d, .func (.func 30) #[] #[]] W fun e w' => e = .returned (.bool true) ∧ Below W.heap.size W w') := Lib.hid (fun W A B c d h1 h2 => by
          have e1 : ((ps.map Ses.gotOf).take t).length = t := by rw [List.length_take, List.length_map]; omega
          have h3 := Kd.C_take (m := t) (show Ses.gtKd.C W A (Ses.outsOf ps t).length (Ses.outsOf ps t) by rw [Ses.outs_len htn]; exact h1) (by rw [Ses.outs_len htn]; omega)
          have h4 := Kd.C_take (m := t) (show Ses.gtKd.C W B (ps.map Ses.gotOf).length (ps.map Ses.gotOf) by rw [List.length_map, ← HN.out]; exact h2) (by rw [List.length_map]; omega)
          rw [Ses.outs_take htn] at h3
          exact equalFunc_same ((ps.map Ses.gotOf).take t) A B c d t W h3 h4 e1)
        have HCl : Hid (∀ (W : World) (a : Addr) (c : Nat), Kd.C (Kd.int .u8) W (some a) N enc → Calls Tryd.prog 17 #[.slice (some a) k c] W fun r w' => ∃ g d, r = .returned (.slice (some ⟨g, 0, none⟩) k d) ∧ Kd.C (Kd.int .u8) w' (some ⟨g, 0, none⟩) k (enc.take k) ∧ Below W.heap.size W w') := Lib.hid (fun W a c hC => clone_front enc k a c W (by rw [← hN]; exact hC) (by omega) (by omega))
        have HPut2 : Hid (∀ (W : World) (A : Option Addr) (c : Nat), Ses.psKd.C W A n (ps.map Ses.conv) → n ≤ c → Calls Tryd.prog 16 #[.slice A n c, .bool big, .int .i64 m] W fun e w' => ∃ a c, e = .returned (.slice (some a) N c) ∧ N ≤ c ∧ Kd.C (Kd.int .u8) w' (some a) N enc ∧ Below W.heap.size W w') := Lib.hid (fun W A c hC hle => (HPut.out W A c hC hle).mono (by
          rintro e w' ⟨v, rfl, hR, hb⟩
          obtain ⟨g, c', rfl, -, -, -⟩ := Kd.R_form hR (by omega)
          obtain ⟨h1, h2, h3⟩ := Kd.R_reads' hR
          rw [← hN] at h2 h3
          exact ⟨⟨g, 0, none⟩, c', by rw [← hN], h2, h3, hb⟩))
        have hrem : at_.tmod (N : Int) = (k : Int) := Ses.tmod_k at0 hk
        have hmod : at_ % (N : Int) = (k : Int) := hk.symm
        have hwk : IntKind.i64.wrap (at_.tmod (N : Int)) = (k : Int) := by rw [hrem]; exact (IntKind.wrap_i64 _).trans (by omega)
        have hwk2 : IntKind.i64.wrap (k : Int) = (k : Int) := (IntKind.wrap_i64 _).trans (by omega)
        have hwa : IntKind.i64.wrap at_ = at_ := (IntKind.wrap_i64 _).trans (by omega)
        have d0 : decide ((N : Int) = 0) = false := decide_eq_false (by omega)
        have d1 : ((N : Int) == 0) = false := beq_eq_false_iff_ne.2 (by omega)
        have d2 : ¬ (N : Int) = 0 := by omega
        have hkI : (k : Int) ≤ (N : Int) := by omega
        have hk0 : (0 : Int) ≤ (k : Int) := Int.natCast_nonneg _
        have ht0 : (0 : Int) ≤ (t : Int) := Int.natCast_nonneg _
        have htn2 : t < n := by rw [HN.out]; exact htn
        have htl : (t : Int) < (n : Int) := by omega
        have c1 : decide ((t : Int) ≥ 0) = true := decide_eq_true (by omega)
        have c2 : decide ((t : Int) < (n : Int)) = true := decide_eq_true htl
        have hw1 : IntKind.i64.wrap (((t + 1 : Nat) : Int) - 1) = (t : Int) := (IntKind.wrap_i64 _).trans (by omega)
        have hw2 : IntKind.i64.wrap ((t : Int) + 1 - 1) = (t : Int) := (IntKind.wrap_i64 _).trans (by omega)
        have hw3 : IntKind.i64.wrap (t : Int) = (t : Int) := (IntKind.wrap_i64 _).trans (by omega)
        have c3 : decide ((t : Int) = (t : Int)) = true := decide_eq_true rfl
        have c4 : ((t : Int) == (t : Int)) = true := beq_self_eq_true _
        clear hcut hcut2 hpre hct ht htn hlk henc hencB hop hok hfl hlong HPut hE hN hk hN0 hm
        go_enter Tryd.func9, Tryd.ntmps9
        go_wp2_with (first | (go_at_call 24; (with_reducible refine (HF11.out _ (Below.refl _ _)).mono ?_); rintro e w1 ⟨rfl, hb1⟩; have HB1 := Lib.hid hb1; clear hb1) | (go_at_call 25; (with_reducible refine (HFit.out _ HB1.out).mono ?_); rintro e w2 ⟨rfl, hb2⟩; have HB2 := Lib.hid (bl_trans HB1.out hb2); clear hb2) | (go_at_call 26; (with_reducible refine (HPuts.out _ HB2.out).mono ?_); rintro e w3 ⟨v3, rfl, hR3, hb3⟩; obtain ⟨A3, c3, e3, hle3, hC3⟩ := Kd.R_reads hR3; (rw [HN2.out] at e3 hle3 hC3); subst e3; have HC3 := Lib.hid hC3; have HB3 := Lib.hid (bl_trans HB2.out hb3); clear hR3 hC3 hb3) | (go_at_call 15; (with_reducible refine (HCh.out _).mono ?_); rintro e w3 ⟨rfl, rfl⟩; skip) | (go_at_call 16; (with_reducible refine (HPut2.out _ _ _ HC3.out hle3).mono ?_); rintro e w4 ⟨a4, c4, rfl, hle4, hC4, hb4⟩; have HC4 := Lib.hid hC4; have HB4 := Lib.hid (bl_trans HB3.out hb4); (have hkc : (k : Int) ≤ (c4 : Int) := by omega); (have hkc2 : k ≤ c4 := by omega); clear hC4 hb4) | (go_at_call 17; (with_reducible refine (HCl.out _ _ _ HC4.out).mono ?_); rintro e w5 ⟨g5, c5, rfl, hC5, hb5⟩; have HC5 := Lib.hid hC5; have HB5 := Lib.hid (bl_trans HB4.out hb5); clear hC5 hb5) | (go_at_call 27; (with_reducible refine (HGets.out _ HB5.out).mono ?_); rintro e w6 ⟨A6, c6, rfl, hle6, hC6, hb6⟩; have HC6 := Lib.hid hC6; have HC5b := Lib.hid (Kd.C_below HC5.out hb6); have HB6 := Lib.hid (bl_trans HB5.out hb6); clear hC6 hb6) | (go_at_call 18; (with_reducible refine (HGet.out _ _ _ _ _ HB6.out HC5b.out HC6.out hle6).mono ?_); rintro e w7 ⟨A7, c7, v7, rfl, hle7, hC7, hb7⟩; (have htc7 : (t : Int) ≤ (c7 : Int) := by omega); (have htd7 : t ≤ c7 := by omega); have HC7 := Lib.hid hC7; have HB7 := Lib.hid (bl_trans HB6.out hb7); clear hC7 hb7) | (go_at_call 31; (with_reducible refine (HGo.out _ HB7.out).mono ?_); rintro e w8 ⟨A8, c8, rfl, hle8, hC8, hb8⟩; (have htc8 : (t : Int) ≤ (c8 : Int) := by omega); (have htd8 : t ≤ c8 := by omega); have HC8 := Lib.hid hC8; have HC7b := Lib.hid (Kd.C_below HC7.out hb8); have HB8 := Lib.hid (bl_trans HB7.out hb8); clear hC8 hb8) | (go_at_call 32; (with_reducible refine (HIx.out _ _ _ HC7b.out).mono ?_); rintro e w9 ⟨rfl, hb9⟩; have HC8b := Lib.hid (Kd.C_below HC8.out hb9); have HC7c := Lib.hid (Kd.C_below HC7b.out hb9); have HB9 := Lib.hid (bl_trans HB8.out hb9); clear hb9))
        go_region_held3 (fun _ => True) (exact trivial) (first | (go_at_call 29; (with_reducible refine (HEqF.out _ _ _ _ _ ?h7 ?h8).mono ?_); (case h7 => exact Kd.C_below HC7c.out (by first | exact Below.refl _ _ | exact bl_drewN _ _)); (case h8 => exact Kd.C_below HC8b.out (by first | exact Below.refl _ _ | exact bl_drewN _ _)); rintro e w10 ⟨rfl, hb10⟩; have HB10 : Hid (Below w.heap.size w w10) := Lib.hid (by first | exact bl_trans HB9.out hb10 | exact bl_trans (HB9.out.trans ((bl_drewN _ _).mono HB9.out.size)) hb10); clear hb10) | (go_at_call 14; (with_reducible refine (sessionLive_calls _).mono ?_); rintro e w19 ⟨rfl, hb19⟩; have HB19 : Hid (Below w.heap.size w w19) := Lib.hid (by first | exact bl_trans HB10.out hb19 | exact bl_trans (HB10.out.trans ((bl_drewN _ _).mono HB10.out.size)) hb19); clear hb19))
        go_wp2
        go_ret
        exact ⟨rfl, HB19.out⟩
end Go.Proofs.YtdnahdddkagfhaaDoor.X
