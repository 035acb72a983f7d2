/- Parts of a session's message: how they lie, and whether they fit. -/
import Derived.Test.YtdnahdddkagfhaaDoorTa
namespace Go.Proofs.YtdnahdddkagfhaaDoor.X
open Go.RowKit Go.Proofs.YtdnahdddkagfhaaDoorW.PrintWords Go.Proofs.YtdnahdddkagfhaaDoorW.PrintMore
attribute [local go_sem] setCell_drewN alloc_drewN
set_option linter.unusedVariables false
set_option linter.unusedSimpArgs false
namespace Ses
/-- A part. -/
structure SP where
  kind : Int
  size : Int
  num : Int
  big : Bool
  comp : Bool
  flag : Int
  data : List Int
  other : List Int
def spKd : Kd SP := Kd.iso (Kd.pair (Kd.int .u8) (Kd.pair (Kd.int .u8) (Kd.pair (Kd.int .u64) (Kd.pair Kd.bool (Kd.pair Kd.bool (Kd.pair (Kd.int .u8) (Kd.pair (Kd.slice 5 (Kd.int .u8)) (Kd.slice 5 (Kd.int .u8))))))))) (fun p => (p.kind, p.size, p.num, p.big, p.comp, p.flag, p.data, p.other))
theorem sp_open {w : World} {p : SP} {c : List Value} (h : spKd.K w p c) : ∃ A cA B cB, c = [.int .u8 p.kind, .int .u8 p.size, .int .u64 p.num, .bool p.big, .bool p.comp, .int .u8 p.flag, .slice A p.data.length cA, .slice B p.other.length cB] ∧ p.data.length ≤ cA ∧ p.other.length ≤ cB ∧ Kd.C (Kd.int .u8) w A p.data.length p.data ∧ Kd.C (Kd.int .u8) w B p.other.length p.other := by
  obtain ⟨c0, d0, rfl, h0, c1, d1, rfl, h1, c2, d2, rfl, h2, c3, d3, rfl, h3, c4, d4, rfl, h4, c5, d5, rfl, h5, c6, d6, rfl, ⟨A, cA, rfl, hA, hA2⟩, ⟨B, cB, rfl, hB, hB2⟩⟩ := h
  have e0 : c0 = [_] := h0
  have e1 : c1 = [_] := h1
  have e2 : c2 = [_] := h2
  have e3 : c3 = [_] := h3
  have e4 : c4 = [_] := h4
  have e5 : c5 = [_] := h5
  subst e0; subst e1; subst e2; subst e3; subst e4; subst e5
  exact ⟨A, cA, B, cB, rfl, hA, hB, hA2, hB2⟩
end Ses
set_option maxHeartbeats 1000000 in
theorem zzFits12_ok (k s n fl : Int) (b c : Bool) (A B : Option Addr) (la cA lb cB : Nat) (w : World) :
    Calls Tryd.prog 36 #[.agg #[.int .u8 k, .int .u8 s, .int .u64 n, .bool b, .bool c, .int .u8 fl, .slice A la cA, .slice B lb cB]] w fun e w' => e = .returned (.bool (decide ((la : Int) ≤ 2147483647) && decide ((lb : Int) ≤ 2147483647))) ∧ Below w.heap.size w w' := by
  by_cases h1 : (la : Int) > 2147483647
  · have t1 : decide ((la : Int) > 2147483647) = true := decide_eq_true h1
    have t2 : decide ((la : Int) ≤ 2147483647) = false := decide_eq_false (by omega)
    go_enter Tryd.func36, Tryd.ntmps36
    go_wp2
    go_ret
    exact ⟨by first | rfl | (rw [t2]; rfl), below_alloc (Below.refl _ _) _⟩
  · have t1 : decide ((la : Int) > 2147483647) = false := decide_eq_false h1
    have t2 : decide ((la : Int) ≤ 2147483647) = true := decide_eq_true (by omega)
    by_cases h3 : (lb : Int) > 2147483647
    · have t3 : decide ((lb : Int) > 2147483647) = true := decide_eq_true h3
      have t4 : decide ((lb : Int) ≤ 2147483647) = false := decide_eq_false (by omega)
      go_enter Tryd.func36, Tryd.ntmps36
      go_wp2
      go_ret
      exact ⟨by first | rfl | (rw [t2, t4]; rfl), below_alloc (Below.refl _ _) _⟩
    · have t3 : decide ((lb : Int) > 2147483647) = false := decide_eq_false h3
      have t4 : decide ((lb : Int) ≤ 2147483647) = true := decide_eq_true (by omega)
      go_enter Tryd.func36, Tryd.ntmps36
      go_wp2
      go_ret
      exact ⟨by first | rfl | (rw [t2, t4]; rfl), below_alloc (Below.refl _ _) _⟩
set_option maxHeartbeats 1000000 in
theorem sessionLong_ok (k s n fl : Int) (b c : Bool) (A B : Option Addr) (la cA lb cB : Nat) (w : World) :
    Calls Tryd.prog 52 #[.agg #[.int .u8 k, .int .u8 s, .int .u64 n, .bool b, .bool c, .int .u8 fl, .slice A la cA, .slice B lb cB]] w fun e w' => e = .returned (.bool (decide (1000 < la) || decide (1000 < lb))) ∧ Below w.heap.size w w' := by
  by_cases h1 : (la : Int) > 1000
  · have t1 : decide ((la : Int) > 1000) = true := decide_eq_true h1
    have t2 : decide (1000 < la) = true := decide_eq_true (by omega)
    go_enter Tryd.func52, Tryd.ntmps52
    go_wp2
    go_ret
    exact ⟨by first | rfl | (rw [t2]; rfl), below_alloc (Below.refl _ _) _⟩
  · have t1 : decide ((la : Int) > 1000) = false := decide_eq_false h1
    have t2 : decide (1000 < la) = false := decide_eq_false (by omega)
    by_cases h3 : (lb : Int) > 1000
    · have t3 : decide ((lb : Int) > 1000) = true := decide_eq_true h3
      have t4 : decide (1000 < lb) = true := decide_eq_true (by omega)
      go_enter Tryd.func52, Tryd.ntmps52
      go_wp2
      go_ret
      exact ⟨by first | rfl | (rw [t2, t4]; rfl), below_alloc (Below.refl _ _) _⟩
    · have t3 : decide ((lb : Int) > 1000) = false := decide_eq_false h3
      have t4 : decide (1000 < lb) = false := decide_eq_false (by omega)
      go_enter Tryd.func52, Tryd.ntmps52
      go_wp2
      go_ret
      exact ⟨by first | rfl | (rw [t2, t4]; rfl), below_alloc (Below.refl _ _) _⟩
namespace Ses
def Fit (p : SP) : Bool := decide ((p.data.length : Int) ≤ 2147483647) && decide ((p.other.length : Int) ≤ 2147483647)
def Long (p : SP) : Bool := decide (1000 < p.data.length) || decide (1000 < p.other.length)
end Ses
set_option maxHeartbeats 4000000 in
set_option maxRecDepth 100000 in
theorem zzFits11_ok (ps : List Ses.SP) (A : Option Addr) (cA : Nat) (w : World) (hC : Ses.spKd.C w A ps.length ps) :
    Calls Tryd.prog 24 #[.slice A ps.length cA] w fun e w' => e = .returned (.bool (decide ((ps.length : Int) ≤ 2147483647) && ps.all Ses.Fit)) ∧ Below w.heap.size w w' := by
  have HC := Lib.hid hC
  have HFit := Lib.hid (fun k s n fl b c A B la cA lb cB W => zzFits12_ok k s n fl b c A B la cA lb cB W)
  obtain ⟨n, hnl⟩ : ∃ n, n = ps.length := ⟨_, rfl⟩
  have HN := Lib.hid hnl
  rw [← hnl]
  clear hC hnl
  by_cases hbig : (n : Int) > 2147483647
  · have t0 : decide ((n : Int) > 2147483647) = true := decide_eq_true hbig
    have t1 : decide ((n : Int) ≤ 2147483647) = false := decide_eq_false (by omega)
    go_enter Tryd.func24, Tryd.ntmps24
    go_wp2
    go_ret
    exact ⟨by first | rfl | (rw [t1]; rfl), Below.refl _ _⟩
  have t0 : decide ((n : Int) > 2147483647) = false := decide_eq_false hbig
  have t1 : decide ((n : Int) ≤ 2147483647) = true := decide_eq_true (by omega)
  have HT1 := Lib.hid t1
  clear t1
  go_enter Tryd.func24, Tryd.ntmps24
  go_wp2
  go_loopw [10] (fun v10 wr => ∃ j : Nat, v10 = .int .i64 j ∧ j ≤ n ∧ Hid (Below w.heap.size w wr) ∧ Hid ((ps.take j).all Ses.Fit = true)) (fun v10 _ => n - (intOf v10).toNat)
  case atStart => exact ⟨0, rfl, Nat.zero_le _, Lib.hid (Below.refl _ _), Lib.hid (by simp)⟩
  case round =>
    obtain ⟨j, rfl, hj, HB, HA⟩ := hrel
    by_cases hlt : j < n
    · have hjl : j < ps.length := by rw [← HN.out]; exact hlt
      have t2 : decide ((j : Int) < (n : Int)) = true := decide_eq_true (by omega)
      obtain ⟨p, hp⟩ : ∃ p, ps[j]? = some p := ⟨_, List.getElem?_eq_getElem hjl⟩
      obtain ⟨g0, o0, rfl, -, hel⟩ := Kd.C_head (Kd.C_below HC.out HB.out) (by decide) (by omega)
      obtain ⟨cl, -, hK, hcell⟩ := hel j p hp
      obtain ⟨A1, c1, A2, c2, rfl, hle1, hle2, hA1, hA2⟩ := Ses.sp_open hK
      obtain ⟨kd, size, num, pb, pc, flag, data, other⟩ := p
      simp only at hA1 hA2 hle1 hle2
      have s0 : wr.cell? ⟨g0, o0 + j * 8, none⟩ = some (.int .u8 kd) := hcell 0 _ rfl
      have s1 : wr.cell? ⟨g0, o0 + j * 8 + 1, none⟩ = some (.int .u8 size) := hcell 1 _ rfl
      have s2 : wr.cell? ⟨g0, o0 + j * 8 + 2, none⟩ = some (.int .u64 num) := hcell 2 _ rfl
      have s3 : wr.cell? ⟨g0, o0 + j * 8 + 3, none⟩ = some (.bool pb) := hcell 3 _ rfl
      have s4 : wr.cell? ⟨g0, o0 + j * 8 + 4, none⟩ = some (.bool pc) := hcell 4 _ rfl
      have s5 : wr.cell? ⟨g0, o0 + j * 8 + 5, none⟩ = some (.int .u8 flag) := hcell 5 _ rfl
      have s6 : wr.cell? ⟨g0, o0 + j * 8 + 6, none⟩ = some (.slice A1 data.length c1) := hcell 6 _ rfl
      have s7 : wr.cell? ⟨g0, o0 + j * 8 + 7, none⟩ = some (.slice A2 other.length c2) := hcell 7 _ rfl
      have HP := Lib.hid hp
      clear hp hel hK hcell hA1 hA2
      have hst : (ps.take (j + 1)).all Ses.Fit = ((ps.take j).all Ses.Fit && Ses.Fit ⟨kd, size, num, pb, pc, flag, data, other⟩) := by
        obtain ⟨hl, e⟩ := List.getElem?_eq_some_iff.1 HP.out
        rw [List.take_succ_eq_append_getElem hl, List.all_append, e]
        simp
      rw [HA.out, Bool.true_and] at hst
      have HSt := Lib.hid hst
      clear hst
      by_cases hf : Ses.Fit ⟨kd, size, num, pb, pc, flag, data, other⟩ = true
      · have HF : Hid ((decide ((data.length : Int) ≤ 2147483647) && decide ((other.length : Int) ≤ 2147483647)) = true) := Lib.hid hf
        have HF2 := Lib.hid hf
        clear hf
        go_wp2_with (go_at_call 36; (with_reducible refine (HFit.out _ _ _ _ _ _ _ _ _ _ _ _ _).mono ?_); rintro e w4 ⟨rfl, hb4⟩; (rw [HF.out]); have HB4 := Lib.hid hb4; clear hb4)
        go_roundw
        case measure => simp [intOf]; omega
        case rel => exact ⟨j + 1, by go_num, by omega, Lib.hid (HB.out.trans (((below_alloc (Below.refl wr.heap.size wr) _).trans (HB4.out.mono (by rw [World.size_alloc]; omega))).mono HB.out.size)), Lib.hid (HSt.out.trans HF2.out)⟩
      · have HF : Hid ((decide ((data.length : Int) ≤ 2147483647) && decide ((other.length : Int) ≤ 2147483647)) = false) := Lib.hid (Bool.not_eq_true _ ▸ hf)
        have hall : ps.all Ses.Fit = false := by
          rw [List.all_eq_false]
          exact ⟨_, List.mem_of_getElem? HP.out, hf⟩
        have HAll := Lib.hid hall
        clear hf hall
        go_wp2_with (go_at_call 36; (with_reducible refine (HFit.out _ _ _ _ _ _ _ _ _ _ _ _ _).mono ?_); rintro e w4 ⟨rfl, hb4⟩; (rw [HF.out]); have HB4 := Lib.hid hb4; clear hb4)
        go_ret
        exact ⟨by rw [HT1.out, HAll.out]; rfl, HB.out.trans (((below_alloc (Below.refl wr.heap.size wr) _).trans (HB4.out.mono (by rw [World.size_alloc]; omega))).mono HB.out.size)⟩
    · have hjn : j = n := by omega
      have t2 : decide ((j : Int) < (n : Int)) = false := decide_eq_false (by omega)
      have hall : ps.all Ses.Fit = true := by
        have h := HA.out
        rw [List.take_of_length_le (by have := HN.out; omega)] at h
        exact h
      go_wp2
      go_ret
      exact ⟨by rw [HT1.out, hall]; rfl, HB.out⟩
set_option maxHeartbeats 4000000 in
set_option maxRecDepth 100000 in
theorem sessionFits_ok (ps : List Ses.SP) (A : Option Addr) (cA : Nat) (w : World) (hC : Ses.spKd.C w A ps.length ps) :
    Calls Tryd.prog 25 #[.slice A ps.length cA] w fun e w' => e = .returned (.bool (decide (ps.length ≤ 20) && !ps.any Ses.Long)) ∧ Below w.heap.size w w' := by
  have HC := Lib.hid hC
  have HLong := Lib.hid (fun k s n fl b c A B la cA lb cB W => sessionLong_ok k s n fl b c A B la cA lb cB W)
  obtain ⟨n, hnl⟩ : ∃ n, n = ps.length := ⟨_, rfl⟩
  have HN := Lib.hid hnl
  rw [← hnl]
  clear hC hnl
  by_cases hbig : n ≤ 20
  · have t0 : decide ((n : Int) ≤ 20) = true := decide_eq_true (by omega)
    have t1 : decide (n ≤ 20) = true := decide_eq_true hbig
    go_enter Tryd.func25, Tryd.ntmps25
    go_wp2
    have HT1 := Lib.hid t1
    clear t1
    go_loopw [8] (fun v8 wr => ∃ j : Nat, v8 = .int .i64 j ∧ j ≤ n ∧ Hid (Below w.heap.size w wr) ∧ Hid ((ps.take j).any Ses.Long = false)) (fun v8 _ => n - (intOf v8).toNat)
    case atStart => exact ⟨0, rfl, Nat.zero_le _, Lib.hid (Below.refl _ _), Lib.hid (by simp)⟩
    case round =>
      obtain ⟨j, rfl, hj, HB, HA⟩ := hrel
      by_cases hlt : j < n
      · have hjl : j < ps.length := by rw [← HN.out]; exact hlt
        have t2 : decide ((j : Int) < (n : Int)) = true := decide_eq_true (by omega)
        obtain ⟨p, hp⟩ : ∃ p, ps[j]? = some p := ⟨_, List.getElem?_eq_getElem hjl⟩
        obtain ⟨g0, o0, rfl, -, hel⟩ := Kd.C_head (Kd.C_below HC.out HB.out) (by decide) (by omega)
        obtain ⟨cl, -, hK, hcell⟩ := hel j p hp
        obtain ⟨A1, c1, A2, c2, rfl, hle1, hle2, hA1, hA2⟩ := Ses.sp_open hK
        obtain ⟨kd, size, num, pb, pc, flag, data, other⟩ := p
        simp only at hA1 hA2 hle1 hle2
        have s0 : wr.cell? ⟨g0, o0 + j * 8, none⟩ = some (.int .u8 kd) := hcell 0 _ rfl
        have s1 : wr.cell? ⟨g0, o0 + j * 8 + 1, none⟩ = some (.int .u8 size) := hcell 1 _ rfl
        have s2 : wr.cell? ⟨g0, o0 + j * 8 + 2, none⟩ = some (.int .u64 num) := hcell 2 _ rfl
        have s3 : wr.cell? ⟨g0, o0 + j * 8 + 3, none⟩ = some (.bool pb) := hcell 3 _ rfl
        have s4 : wr.cell? ⟨g0, o0 + j * 8 + 4, none⟩ = some (.bool pc) := hcell 4 _ rfl
        have s5 : wr.cell? ⟨g0, o0 + j * 8 + 5, none⟩ = some (.int .u8 flag) := hcell 5 _ rfl
        have s6 : wr.cell? ⟨g0, o0 + j * 8 + 6, none⟩ = some (.slice A1 data.length c1) := hcell 6 _ rfl
        have s7 : wr.cell? ⟨g0, o0 + j * 8 + 7, none⟩ = some (.slice A2 other.length c2) := hcell 7 _ rfl
        have HP := Lib.hid hp
        clear hp hel hK hcell hA1 hA2
        have hst : (ps.take (j + 1)).any Ses.Long = ((ps.take j).any Ses.Long || Ses.Long ⟨kd, size, num, pb, pc, flag, data, other⟩) := by
          obtain ⟨hl, e⟩ := List.getElem?_eq_some_iff.1 HP.out
          rw [List.take_succ_eq_append_getElem hl, List.any_append, e]
          simp
        rw [HA.out, Bool.false_or] at hst
        have HSt := Lib.hid hst
        clear hst
        by_cases hf : Ses.Long ⟨kd, size, num, pb, pc, flag, data, other⟩ = true
        · have HF : Hid ((decide (1000 < data.length) || decide (1000 < other.length)) = true) := Lib.hid hf
          have hall : ps.any Ses.Long = true := by
            rw [List.any_eq_true]
            exact ⟨_, List.mem_of_getElem? HP.out, hf⟩
          have HAll := Lib.hid hall
          clear hf hall
          have t3 : decide (0 ≤ (j : Int)) = true := decide_eq_true (by omega)
          go_wp2_with (go_at_call 52; (with_reducible refine (HLong.out _ _ _ _ _ _ _ _ _ _ _ _ _).mono ?_); rintro e w4 ⟨rfl, hb4⟩; (rw [HF.out]); have HB4 := Lib.hid hb4; clear hb4)
          go_ret
          exact ⟨by rw [HT1.out, HAll.out]; rfl, HB.out.trans (HB4.out.mono HB.out.size)⟩
        · have HF : Hid ((decide (1000 < data.length) || decide (1000 < other.length)) = false) := Lib.hid (Bool.not_eq_true _ ▸ hf)
          have HF2 : Hid (Ses.Long ⟨kd, size, num, pb, pc, flag, data, other⟩ = false) := Lib.hid (Bool.not_eq_true _ ▸ hf)
          clear hf
          go_wp2_with (go_at_call 52; (with_reducible refine (HLong.out _ _ _ _ _ _ _ _ _ _ _ _ _).mono ?_); rintro e w4 ⟨rfl, hb4⟩; (rw [HF.out]); have HB4 := Lib.hid hb4; clear hb4)
          go_roundw
          case measure => simp [intOf]; omega
          case rel => exact ⟨j + 1, by go_num, by omega, Lib.hid (HB.out.trans (HB4.out.mono HB.out.size)), Lib.hid (HSt.out.trans HF2.out)⟩
      · have hjn : j = n := by omega
        have t2 : decide ((j : Int) < (n : Int)) = false := decide_eq_false (by omega)
        have hall : ps.any Ses.Long = false := by
          have h := HA.out
          rw [List.take_of_length_le (by have := HN.out; omega)] at h
          exact h
        go_wp2
        go_ret
        exact ⟨by rw [HT1.out, hall]; rfl, HB.out⟩
  · have t0 : decide ((n : Int) ≤ 20) = false := decide_eq_false (by omega)
    have t1 : decide (n ≤ 20) = false := decide_eq_false hbig
    go_enter Tryd.func25, Tryd.ntmps25
    go_wp2
    go_ret
    exact ⟨by first | rfl | (rw [t1]; rfl), Below.refl _ _⟩
end Go.Proofs.YtdnahdddkagfhaaDoor.X
