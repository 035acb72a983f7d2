/- Servers and steps as cells; the functions that make a server of the other kind; what fits. -/
import Derived.Test.YtgjjmhhdncmigaaDoorProg
import Derived.Test.YtgjjmhhdncmigaaDoorSv
import Derived.Lib.Buffer
namespace Go.Proofs.YtgjjmhhdncmigaaDoor.X
open Go.RowKit Go.Proofs.YtgjjmhhdncmigaaDoorW.PrintWords Go.Proofs.YtgjjmhhdncmigaaDoorW.PrintMore
attribute [local go_sem] setCell_drewN alloc_drewN
set_option linter.unusedVariables false
set_option linter.unusedSimpArgs false
/-- A row of elements that is read, by addresses that are written out. -/
theorem Kd.C_head {α : Type} {d : Kd α} {w : World} {A : Option Addr} {n : Nat} {xs : List α} (h : d.C w A n xs) (hs : 0 < d.sz) (hn : 0 < n) :
    ∃ g o, A = some ⟨g, o, none⟩ ∧ g < w.heap.size ∧ ∀ j p, xs[j]? = some p → ∃ c, c.length = d.sz ∧ d.K w p c ∧ ∀ i u, c[i]? = some u → w.cell? ⟨g, o + j * d.sz + i, none⟩ = some u := by
  obtain ⟨hl, _, hh⟩ := h
  obtain ⟨ad, rfl, hc⟩ := hh hn
  obtain ⟨g, o, spot⟩ := ad
  obtain ⟨c, hcl, hK, hcell⟩ := hc 0 _ (List.getElem?_eq_getElem (by omega))
  have h0 := hcell 0 _ (List.getElem?_eq_getElem (by omega))
  have hsp : spot = none := by
    have := World.cell?_spot h0
    simpa [Addr.add] using this
  subst hsp
  refine ⟨g, o, rfl, ?_, fun j p hj => ?_⟩
  · have := World.block_lt_of_cell? w _ h0
    rw [Lib.addr_add] at this
    exact this
  · obtain ⟨c, hcl, hK, hcell⟩ := hc j p hj
    refine ⟨c, hcl, hK, fun i u hi => ?_⟩
    have := hcell i u hi
    rw [Lib.addr_add] at this
    rw [Nat.add_assoc]
    exact this
namespace Sv
/-- Some answer. -/
def Bl (e : Ending) : Prop := ∃ b : Bool, e = .returned (.bool b)
theorem bl_mk (b : Bool) : Bl (.returned (.bool b)) := ⟨b, rfl⟩
/-- An answer that, if it's yes, tells P. -/
def BlP (P : Prop) (e : Ending) : Prop := ∃ b : Bool, e = .returned (.bool b) ∧ (b = true → P)
theorem blp_no (P : Prop) : BlP P (.returned (.bool false)) := ⟨false, rfl, fun h => absurd h (by decide)⟩
theorem blp_yes {P : Prop} (h : P) : BlP P (.returned (.bool true)) := ⟨true, rfl, fun _ => h⟩
theorem row_C {α : Type} {d : Kd α} {w : World} {g : Nat} {cells : Array Value} {ty : TypeId} {fr : Nat × Nat} {xs : List α} (hb : w.heap[g]? = some (.cells cells ty fr)) (hm : xs.length ≤ 9223372036854775807) (h : ∀ j p, xs[j]? = some p → ∃ c, c.length = d.sz ∧ d.K w p c ∧ ∀ i u, c[i]? = some u → cells[j * d.sz + i]? = some u) : d.C w (some ⟨g, 0, none⟩) xs.length xs :=
  ⟨rfl, hm, fun _ => ⟨⟨g, 0, none⟩, rfl, fun j p hj => by
    obtain ⟨c, h1, h2, h3⟩ := h j p hj
    refine ⟨c, h1, h2, fun i u hi => ?_⟩
    rw [Lib.addr_add, Nat.zero_add, xb_cell hb]
    exact h3 i u hi⟩⟩
theorem str2_C {w : World} {g : Nat} {a b : ByteArray} {ty : TypeId} {fr : Nat × Nat} (hb : w.heap[g]? = some (.cells #[.string a, .string b] ty fr)) : Kd.string.C w (some ⟨g, 0, none⟩) 2 [a, b] := by
  refine row_C (d := Kd.string) hb (by simp) (fun j p hj => ?_)
  match j, hj with
  | 0, hj => obtain rfl := Option.some.inj hj; exact ⟨[.string a], rfl, rfl, fun i u hi => by match i, hi with | 0, hi => exact hi⟩
  | 1, hj => obtain rfl := Option.some.inj hj; exact ⟨[.string b], rfl, rfl, fun i u hi => by match i, hi with | 0, hi => exact hi⟩
def srvKd : Kd Srv := Kd.pair Kd.string (Kd.pair Kd.string (Kd.int .i64))
def stpKd : Kd Stp := Kd.pair (Kd.int .i64) srvKd
theorem srv_open {w : World} {p : Srv} {c : List Value} (h : srvKd.K w p c) : c = [.string p.1, .string p.2.1, .int .i64 p.2.2] := by
  obtain ⟨c0, d0, rfl, h0, c1, d1, rfl, h1, h2⟩ := h
  have e0 : c0 = [_] := h0
  have e1 : c1 = [_] := h1
  have e2 : d1 = [_] := h2
  subst e0; subst e1; subst e2
  rfl
theorem stp_open {w : World} {p : Stp} {c : List Value} (h : stpKd.K w p c) : c = [.int .i64 p.1, .string p.2.1, .string p.2.2.1, .int .i64 p.2.2.2] := by
  obtain ⟨c0, d0, rfl, h0, c1, d1, rfl, h1, c2, d2, rfl, h2, h3⟩ := h
  have e0 : c0 = [_] := h0
  have e1 : c1 = [_] := h1
  have e2 : c2 = [_] := h2
  have e3 : d2 = [_] := h3
  subst e0; subst e1; subst e2; subst e3
  rfl
theorem srv_make (w : World) (b : Nat) (ok : Nat → Prop) (p a : ByteArray) (n : Int) : srvKd.M w b ok (p, a, n) [.string p, .string a, .int .i64 n] :=
  ⟨[.string p], [.string a, .int .i64 n], rfl, rfl, [.string a], [.int .i64 n], rfl, rfl, rfl⟩
theorem stp_make (w : World) (b : Nat) (ok : Nat → Prop) (k : Int) (p a : ByteArray) (n : Int) : stpKd.M w b ok (k, p, a, n) [.int .i64 k, .string p, .string a, .int .i64 n] :=
  ⟨[.int .i64 k], [.string p, .string a, .int .i64 n], rfl, rfl, srv_make w b ok p a n⟩
/-- A server's cells in a row that is read. -/
theorem srv_at {w : World} {A : Option Addr} {l : List Srv} (h : srvKd.C w A l.length l) (j : Nat) (hj : j < l.length) : ∃ (g o : Nat), A = some ⟨g, o, none⟩ ∧ w.cell? ⟨g, o + j * 3, none⟩ = some (.string l[j].1) ∧ w.cell? ⟨g, o + j * 3 + 1, none⟩ = some (.string l[j].2.1) ∧ w.cell? ⟨g, o + j * 3 + 2, none⟩ = some (.int .i64 l[j].2.2) := by
  obtain ⟨g, o, rfl, -, hel⟩ := Kd.C_head h (by decide) (by omega)
  obtain ⟨cl, -, hK, hcell⟩ := hel j l[j] (List.getElem?_eq_getElem hj)
  have e := srv_open hK
  subst e
  exact ⟨g, o, rfl, hcell 0 _ rfl, hcell 1 _ rfl, hcell 2 _ rfl⟩
theorem stp_at {w : World} {A : Option Addr} {l : List Stp} (h : stpKd.C w A l.length l) (j : Nat) (hj : j < l.length) : ∃ (g o : Nat), A = some ⟨g, o, none⟩ ∧ w.cell? ⟨g, o + j * 4, none⟩ = some (.int .i64 l[j].1) ∧ w.cell? ⟨g, o + j * 4 + 1, none⟩ = some (.string l[j].2.1) ∧ w.cell? ⟨g, o + j * 4 + 2, none⟩ = some (.string l[j].2.2.1) ∧ w.cell? ⟨g, o + j * 4 + 3, none⟩ = some (.int .i64 l[j].2.2.2) := by
  obtain ⟨g, o, rfl, -, hel⟩ := Kd.C_head h (by decide) (by omega)
  obtain ⟨cl, -, hK, hcell⟩ := hel j l[j] (List.getElem?_eq_getElem hj)
  have e := stp_open hK
  subst e
  exact ⟨g, o, rfl, hcell 0 _ rfl, hcell 1 _ rfl, hcell 2 _ rfl, hcell 3 _ rfl⟩
end Sv
set_option maxHeartbeats 1000000 in
theorem serverOf_ok (p a : ByteArray) (n : Int) (w : World) :
    Calls Tryd.prog 18 #[.agg #[.string p, .string a, .int .i64 n]] w fun e w' => e = .returned (.agg #[.string p, .string a, .int .i64 n]) ∧ Below w.heap.size w w' := by
  go_enter Tryd.func18, Tryd.ntmps18
  go_wp2
  refine bodyPost_ret (results_cell_row rfl _ _ (w.heap.size + 1) 49 #[.string p, .string a, .int .i64 n] (0, 0) _ rfl ?_ Tryd.underlying49 rfl (by kernel_rfl)) rfl ?_
  · have h := xb_new (w.alloc (.cells #[.string p, .string a, .int .i64 n] 30)) (.cells #[.string p, .string a, .int .i64 n] 49)
    rw [World.size_alloc] at h
    exact h
  · exact ⟨rfl, below_alloc (below_alloc (Below.refl _ _) _) _⟩
set_option maxHeartbeats 1000000 in
theorem plainServer_ok (p a : ByteArray) (n : Int) (w : World) :
    Calls Tryd.prog 21 #[.agg #[.string p, .string a, .int .i64 n]] w fun e w' => e = .returned (.agg #[.string p, .string a, .int .i64 n]) ∧ Below w.heap.size w w' := by
  go_enter Tryd.func21, Tryd.ntmps21
  go_wp2
  refine bodyPost_ret (results_cell_row rfl _ _ (w.heap.size + 1) 30 #[.string p, .string a, .int .i64 n] (0, 0) _ rfl ?_ Tryd.underlying30 rfl (by kernel_rfl)) rfl ?_
  · have h := xb_new (w.alloc (.cells #[.string p, .string a, .int .i64 n] 49)) (.cells #[.string p, .string a, .int .i64 n] 30)
    rw [World.size_alloc] at h
    exact h
  · exact ⟨rfl, below_alloc (below_alloc (Below.refl _ _) _) _⟩
set_option maxHeartbeats 1000000 in
theorem zzFits1_ok (p a : ByteArray) (n : Int) (w : World) :
    Calls Tryd.prog 22 #[.agg #[.string p, .string a, .int .i64 n]] w fun e w' => Sv.Bl e ∧ Below w.heap.size w w' := by
  by_cases h1 : (p.size : Int) > 2147483647
  · have t1 : decide ((p.size : Int) > 2147483647) = true := decide_eq_true h1
    go_enter Tryd.func22, Tryd.ntmps22
    go_wp2
    go_ret
    exact ⟨Sv.bl_mk _, below_alloc (Below.refl _ _) _⟩
  · have t1 : decide ((p.size : Int) > 2147483647) = false := decide_eq_false h1
    by_cases h3 : (a.size : Int) > 2147483647
    · have t3 : decide ((a.size : Int) > 2147483647) = true := decide_eq_true h3
      go_enter Tryd.func22, Tryd.ntmps22
      go_wp2
      go_ret
      exact ⟨Sv.bl_mk _, below_alloc (Below.refl _ _) _⟩
    · have t3 : decide ((a.size : Int) > 2147483647) = false := decide_eq_false h3
      go_enter Tryd.func22, Tryd.ntmps22
      go_wp2
      go_ret
      exact ⟨Sv.bl_mk _, below_alloc (Below.refl _ _) _⟩
set_option maxHeartbeats 1000000 in
theorem zzFits3_ok (k : Int) (p a : ByteArray) (n : Int) (w : World) :
    Calls Tryd.prog 12 #[.agg #[.int .i64 k, .string p, .string a, .int .i64 n]] w fun e w' => Sv.Bl e ∧ Below w.heap.size w w' := by
  have H1 := Lib.hid (fun W => zzFits1_ok p a n W)
  go_enter Tryd.func12, Tryd.ntmps12
  go_wp2_with (go_at_call 22; (with_reducible refine (H1.out _).mono ?_); rintro e w4 ⟨⟨b, rfl⟩, hb4⟩; have HB4 := Lib.hid hb4; clear hb4; cases b)
  all_goals (go_ret; exact ⟨Sv.bl_mk _, (below_alloc (Below.refl _ _) _).trans (HB4.out.mono (by rw [World.size_alloc]; omega))⟩)
set_option maxHeartbeats 4000000 in
set_option maxRecDepth 100000 in
theorem zzFits2_ok (l : List Sv.Stp) (A : Option Addr) (cA : Nat) (w : World) (hC : Sv.stpKd.C w A l.length l) :
    Calls Tryd.prog 5 #[.slice A l.length cA] w fun e w' => Sv.BlP (l.length ≤ 2147483647) e ∧ Below w.heap.size w w' := by
  have HC := Lib.hid hC
  have H3 := Lib.hid (fun k p a n W => zzFits3_ok k p a n W)
  have hmx := Kd.C_max hC
  obtain ⟨n, hnl⟩ : ∃ n, n = l.length := ⟨_, rfl⟩
  have HN := Lib.hid hnl
  rw [← hnl] at hmx ⊢
  clear hC hnl
  by_cases hbig : (n : Int) > 2147483647
  · have t0 : decide ((n : Int) > 2147483647) = true := decide_eq_true hbig
    go_enter Tryd.func5, Tryd.ntmps5
    go_wp2
    go_ret
    exact ⟨Sv.blp_no _, Below.refl _ _⟩
  have t0 : decide ((n : Int) > 2147483647) = false := decide_eq_false hbig
  have HL : Hid (n ≤ 2147483647) := Lib.hid (by omega)
  go_enter Tryd.func5, Tryd.ntmps5
  go_wp2
  go_loopw [10] (fun v10 wr => ∃ j : Nat, v10 = .int .i64 j ∧ j ≤ n ∧ Hid (Below w.heap.size w wr)) (fun v10 _ => n - (intOf v10).toNat)
  case atStart => exact ⟨0, rfl, Nat.zero_le _, Lib.hid (Below.refl _ _)⟩
  case round =>
    obtain ⟨j, rfl, hj, HB⟩ := hrel
    by_cases hlt : j < n
    · have hjl : j < l.length := by rw [← HN.out]; exact hlt
      have t2 : decide ((j : Int) < (n : Int)) = true := decide_eq_true (by omega)
      obtain ⟨g0, o0, rfl, s0, s1, s2, s3⟩ := Sv.stp_at (Kd.C_below HC.out HB.out) j hjl
      generalize l[j] = p at s0 s1 s2 s3
      obtain ⟨kd, pr, ad, po⟩ := p
      simp only at s0 s1 s2 s3
      go_wp2_with (go_at_call 12; (with_reducible refine (H3.out _ _ _ _ _).mono ?_); rintro e w4 ⟨⟨b, rfl⟩, hb4⟩; have HB4 := Lib.hid hb4; clear hb4; cases b)
      · go_ret
        exact ⟨Sv.blp_no _, HB.out.trans (((below_alloc (Below.refl wr.heap.size wr) _).trans (HB4.out.mono (by rw [World.size_alloc]; omega))).mono HB.out.size)⟩
      · go_roundw
        case measure => simp [intOf]; omega
        case rel => exact ⟨j + 1, by go_num, by omega, Lib.hid (HB.out.trans (((below_alloc (Below.refl wr.heap.size wr) _).trans (HB4.out.mono (by rw [World.size_alloc]; omega))).mono HB.out.size))⟩
    · have hjn : j = n := by omega
      have t2 : decide ((j : Int) < (n : Int)) = false := decide_eq_false (by omega)
      go_wp2
      go_ret
      exact ⟨Sv.blp_yes HL.out, HB.out⟩
set_option maxHeartbeats 4000000 in
set_option maxRecDepth 100000 in
theorem configShort_ok (l : List ByteArray) (A : Option Addr) (cA : Nat) (w : World) (hC : Kd.string.C w A l.length l) :
    Calls Tryd.prog 23 #[.slice A l.length cA] w fun e w' => Sv.BlP (∀ s ∈ l, s.size ≤ 300) e ∧ Below w.heap.size w w' := by
  have HC := Lib.hid hC
  have hmx := Kd.C_max hC
  obtain ⟨n, hnl⟩ : ∃ n, n = l.length := ⟨_, rfl⟩
  have HN := Lib.hid hnl
  rw [← hnl] at hmx ⊢
  clear hC hnl
  go_enter Tryd.func23, Tryd.ntmps23
  go_wp2
  go_loopw [7] (fun v7 wr => ∃ j : Nat, v7 = .int .i64 j ∧ j ≤ n ∧ Hid (Below w.heap.size w wr) ∧ Hid (∀ s ∈ l.take j, s.size ≤ 300)) (fun v7 _ => n - (intOf v7).toNat)
  case atStart => exact ⟨0, rfl, Nat.zero_le _, Lib.hid (Below.refl _ _), Lib.hid (by simp)⟩
  case round =>
    obtain ⟨j, rfl, hj, HB, HA⟩ := hrel
    by_cases hlt : j < n
    · have hjl : j < l.length := by rw [← HN.out]; exact hlt
      have t2 : decide ((j : Int) < (n : Int)) = true := decide_eq_true (by omega)
      obtain ⟨⟨g0, o0, pth⟩, rfl, hs0⟩ := Kd.at_string (Kd.C_below HC.out HB.out) (j : Int) (Int.natCast_nonneg j) (by have := HN.out; omega)
      have e0 : rdOf ByteArray.empty l (j : Int) = l[j] := by simp [rdOf, List.getD, List.getElem?_eq_getElem hjl]
      rw [e0, Int.toNat_natCast] at hs0
      have HP : Hid (l.take (j + 1) = l.take j ++ [l[j]]) := Lib.hid (List.take_succ_eq_append_getElem hjl)
      generalize l[j] = s at hs0 HP
      by_cases h1 : (s.size : Int) > 300
      · have t1 : decide ((s.size : Int) > 300) = true := decide_eq_true h1
        go_wp2
        go_ret
        exact ⟨Sv.blp_no _, HB.out⟩
      · have t1 : decide ((s.size : Int) > 300) = false := decide_eq_false h1
        go_wp2
        go_roundw
        case measure => simp [intOf]; omega
        case rel => exact ⟨j + 1, by go_num, by omega, HB, Lib.hid (by
          rw [HP.out]
          intro x hx
          rcases List.mem_append.1 hx with h | h
          · exact HA.out x h
          · rw [List.mem_singleton.1 h]; omega)⟩
    · have hjn : j = n := by omega
      have t2 : decide ((j : Int) < (n : Int)) = false := decide_eq_false (by omega)
      have HE : Hid (∀ s ∈ l, s.size ≤ 300) := Lib.hid (by
        have h := HA.out
        rw [List.take_of_length_le (by have := HN.out; omega)] at h
        exact h)
      go_wp2
      go_ret
      exact ⟨Sv.blp_yes HE.out, HB.out⟩
set_option maxHeartbeats 4000000 in
set_option maxRecDepth 100000 in
theorem configServers_ok (l : List Sv.Srv) (A : Option Addr) (cA : Nat) (w : World) (hC : Sv.srvKd.C w A l.length l) :
    Calls Tryd.prog 13 #[.slice A l.length cA] w fun e w' => Sv.BlP (l.length ≤ 100 ∧ ∀ s ∈ l, Sv.Ok s) e ∧ Below w.heap.size w w' := by
  have HC := Lib.hid hC
  have HSh := Lib.hid (fun l A cA W hW => configShort_ok l A cA W hW)
  have hmx := Kd.C_max hC
  obtain ⟨n, hnl⟩ : ∃ n, n = l.length := ⟨_, rfl⟩
  have HN := Lib.hid hnl
  rw [← hnl] at hmx ⊢
  clear hC hnl
  by_cases hbig : (n : Int) > 100
  · have t0 : decide ((n : Int) > 100) = true := decide_eq_true hbig
    go_enter Tryd.func13, Tryd.ntmps13
    go_wp2
    go_ret
    exact ⟨Sv.blp_no _, Below.refl _ _⟩
  have t0 : decide ((n : Int) > 100) = false := decide_eq_false hbig
  go_enter Tryd.func13, Tryd.ntmps13
  go_wp2
  go_loopw [10] (fun v10 wr => ∃ j : Nat, v10 = .int .i64 j ∧ j ≤ n ∧ Hid (Below w.heap.size w wr) ∧ Hid (∀ s ∈ l.take j, Sv.Ok s)) (fun v10 _ => n - (intOf v10).toNat)
  case atStart => exact ⟨0, rfl, Nat.zero_le _, Lib.hid (Below.refl _ _), Lib.hid (by simp)⟩
  case round =>
    obtain ⟨j, rfl, hj, HB, HA⟩ := hrel
    by_cases hlt : j < n
    · have hjl : j < l.length := by rw [← HN.out]; exact hlt
      have t2 : decide ((j : Int) < (n : Int)) = true := decide_eq_true (by omega)
      obtain ⟨g0, o0, rfl, s0, s1, s2⟩ := Sv.srv_at (Kd.C_below HC.out HB.out) j hjl
      have HP : Hid (l.take (j + 1) = l.take j ++ [l[j]]) := Lib.hid (List.take_succ_eq_append_getElem hjl)
      generalize l[j] = p at s0 s1 s2 HP
      obtain ⟨pr, ad, po⟩ := p
      simp only at s0 s1 s2
      have HSh : Hid (∀ W : World, W.heap[wr.heap.size + 1]? = some (.cells #[.string ad, .string pr] 9 (0, 0)) → Calls Tryd.prog 23 #[.slice (some ⟨wr.heap.size + 1, 0, none⟩) 2 2] W fun e w' => Sv.BlP (∀ s ∈ [ad, pr], s.size ≤ 300) e ∧ Below W.heap.size W w') := Lib.hid (fun W hW => configShort_ok [ad, pr] _ 2 W (Sv.str2_C hW))
      have HPl : Hid (∀ W : World, ad.size ≤ 300 → Calls Tryd.prog 24 #[.string ad] W fun e w' => Sv.BlP (∀ x ∈ bytesOf ad, x < 128) e ∧ Below W.heap.size W w') := Lib.hid (fun W hW => (spec_ConfigPlain.calls ad (decide (∀ x ∈ bytesOf ad, x < 128)) W (by rw [spec_ConfigPlain.f, if_pos (by omega)])).mono (by
        rintro e w' ⟨rfl, hb⟩
        exact ⟨⟨_, rfl, fun h => of_decide_eq_true h⟩, hb⟩))
      go_wp2_with (first
        | (go_at_call 23; (refine (HSh.out _ (by have h := xb_new (wr.alloc (.cells #[.string pr, .string ad, .int .i64 po] 30)) (.cells #[.string ad, .string pr] 9); rw [World.size_alloc] at h; exact h)).mono ?_); rintro e w4 ⟨⟨b, rfl, hb⟩, hb4⟩; have q1 : w4.cell? ⟨wr.heap.size, 1, none⟩ = some (.string ad) := bl_cell hb4 (xb_cell (xb_alloc (xb_new wr _)) 1); have HB4 : Hid (Below wr.heap.size wr w4) := Lib.hid ((below_alloc (below_alloc (Below.refl _ _) _) _).trans (hb4.mono (by rw [World.size_alloc, World.size_alloc]; omega))); clear hb4; have HA4 := Lib.hid hb; clear hb; cases b)
        | (go_at_call 24; (refine (HPl.out _ (HA4.out (by simp) ad (by simp))).mono ?_); rintro e w5 ⟨⟨b5, rfl, hb5'⟩, hb5⟩; have HB5 := Lib.hid hb5; clear hb5; have HA5 := Lib.hid hb5'; clear hb5'; cases b5))
      all_goals first
        | (go_ret; exact ⟨Sv.blp_no _, HB.out.trans (HB4.out.mono HB.out.size)⟩)
        | (go_ret; exact ⟨Sv.blp_no _, HB.out.trans ((bl_trans HB4.out HB5.out).mono HB.out.size)⟩)
        | skip
      go_roundw
      case measure => simp [intOf]; omega
      case rel => exact ⟨j + 1, by go_num, by omega, Lib.hid (HB.out.trans ((bl_trans HB4.out HB5.out).mono HB.out.size)), Lib.hid (by
          rw [HP.out]
          intro x hx
          rcases List.mem_append.1 hx with h | h
          · exact HA.out x h
          · rw [List.mem_singleton.1 h]; exact ⟨HA4.out (by simp) pr (by simp), HA4.out (by simp) ad (by simp), HA5.out (by simp)⟩)⟩
    · have hjn : j = n := by omega
      have t2 : decide ((j : Int) < (n : Int)) = false := decide_eq_false (by omega)
      have HE : Hid (n ≤ 100 ∧ ∀ s ∈ l, Sv.Ok s) := Lib.hid ⟨by omega, by
        have h := HA.out
        rw [List.take_of_length_le (by have := HN.out; omega)] at h
        exact h⟩
      go_wp2
      go_ret
      exact ⟨Sv.blp_yes HE.out, HB.out⟩
end Go.Proofs.YtgjjmhhdncmigaaDoor.X
