/- FnSessionPacked: compressed numbers are as long as their significant bytes and one more, and stand in the numbers' order. -/
import Derived.Test.YtdnahdddkagfhaaDoorTa
import Derived.Test.YtdnahdddkagfhaaDoorTb
import Derived.Lib.Bytealg
import Derived.Lib.BytesEntry
import Derived.Laws.Externs
namespace Go.Proofs.YtdnahdddkagfhaaDoor.X
open Go.RowKit Go.Proofs.YtdnahdddkagfhaaDoorW.PrintWords Go.Proofs.YtdnahdddkagfhaaDoorW.PrintLast Go.Proofs.YtdnahdddkagfhaaDoorW.PrintMore
attribute [local go_sem] setCell_drewN alloc_drewN
set_option linter.unusedVariables false
set_option linter.unusedSimpArgs false
theorem run_bytesOf_C {P : Program} {w : World} {A : Option Addr} {l : List Int} (c : Nat) (h : Kd.C (Kd.int .u8) w A l.length l) :
    (Extern.Bytes.bytesOf (.slice A l.length c)).run P w = .ok ⟨(Lib.bytesOf l).toArray⟩ w := by
  by_cases hn : 0 < l.length
  · obtain ⟨g, o, rfl, _, hc⟩ := C_base h hn
    have hl := Lib.run_loadBytesX (P := P) w l ⟨g, o, none⟩ .empty (fun j x hj => by
      have hjl := (List.getElem?_eq_some_iff.1 hj).1
      rw [Lib.addr_add, hc j hjl, List.getD_eq_getElem?_getD, hj]
      rfl)
    have he : (⟨ByteArray.empty.data ++ (Lib.bytesOf l).toArray⟩ : ByteArray) = ⟨(Lib.bytesOf l).toArray⟩ := by
      apply ByteArray.ext
      show (#[] : Array UInt8) ++ (Lib.bytesOf l).toArray = (Lib.bytesOf l).toArray
      simp
    rw [he] at hl
    exact hl
  · have hz : l = [] := List.eq_nil_of_length_eq_zero (by omega)
    subst hz
    cases A <;> rfl
theorem run_compare_C {P : Program} {w : World} {A B : Option Addr} {l m : List Int} (c d : Nat) (h : Kd.C (Kd.int .u8) w A l.length l) (k : Kd.C (Kd.int .u8) w B m.length m) :
    (Extern.BytealgCompare.compare #[.slice A l.length c, .slice B m.length d]).run P w = .ok (.int .i64 (Lib.compareBytes (Lib.bytesOf l) (Lib.bytesOf m))) w := by
  change Sem.run P (do pure (goInt (Extern.BytealgCompare.cmp (← Extern.Bytes.bytesOf (.slice A l.length c)) (← Extern.Bytes.bytesOf (.slice B m.length d))))) w = _
  have h1 := run_bytesOf_C (P := P) c h
  have h2 := run_bytesOf_C (P := P) d k
  simp only [Sem.run_bind, Sem.run_pure, Result.andThen, h1, h2]
  rw [Lib.cmp_eq]
  rfl
set_option maxHeartbeats 2000000 in
set_option maxRecDepth 100000 in
/-- bytes.Compare of slices that are read. -/
theorem bytesCompare_ok (A0 : Option Addr) (c0 : Nat) (l0 : List Int) (A1 : Option Addr) (c1 : Nat) (l1 : List Int) (w : World) (hr0 : Kd.C (Kd.int .u8) w A0 l0.length l0) (hr1 : Kd.C (Kd.int .u8) w A1 l1.length l1) :
    Calls Tryd.prog 20 #[.slice A0 l0.length c0, .slice A1 l1.length c1] w fun e w' => e = .returned (.int .i64 (Lib.compareBytes (Lib.bytesOf l0) (Lib.bytesOf l1))) ∧ w' = w := by
  have hcmp := Lib.hid (run_compare_C (P := Tryd.prog) c0 c1 hr0 hr1)
  clear hr0 hr1
  go_enter Tryd.func20, Tryd.ntmps20
  go_wp2
  rw [run_callFunc_extern Tryd.func50 (by kernel_rfl) (by kernel_rfl) (by kernel_rfl) (e := Extern.BytealgCompare.compare) (by kernel_rfl), hcmp.out]
  simp only [Result.andThen]
  rw [Oper.upon_value]
  go_wp2
  go_ret
  exact ⟨rfl, rfl⟩
namespace Ses
/-- One step, in a block of its own. -/
theorem ps_one {w : World} {g : Nat} {p : PS} {A B : Option Addr} {cA cB : Nat} (hA : Kd.C (Kd.int .u8) w A p.data.length p.data) (hlA : p.data.length ≤ cA) (hB : Kd.C (Kd.int .u8) w B p.other.length p.other) (hlB : p.other.length ≤ cB)
    (h : w.heap[g]? = some (.cells #[.int .i64 p.kind, .slice A p.data.length cA, .slice B p.other.length cB, .int .i64 p.num, .int .u64 p.uns, .int .u8 p.size, .int .u8 p.flag, .bool p.big, .bool p.comp] 29 (0, 0))) : psKd.C w (some ⟨g, 0, none⟩) [p].length [p] := by
  refine ⟨rfl, by simp, fun _ => ⟨_, rfl, fun j q hj => ?_⟩⟩
  have hj0 : j = 0 := by
    rcases j with _ | j
    · rfl
    · simp at hj
  subst hj0
  obtain rfl : p = q := by simpa using hj
  refine ⟨[.int .i64 p.kind, .slice A p.data.length cA, .slice B p.other.length cB, .int .i64 p.num, .int .u64 p.uns, .int .u8 p.size, .int .u8 p.flag, .bool p.big, .bool p.comp], rfl, ?_, fun i u hi => ?_⟩
  · exact ⟨[_], _, rfl, rfl, [_], _, rfl, ⟨A, cA, rfl, hlA, hA⟩, [_], _, rfl, ⟨B, cB, rfl, hlB, hB⟩, [_], _, rfl, rfl, [_], _, rfl, rfl, [_], _, rfl, rfl, [_], _, rfl, rfl, [_], _, rfl, rfl, rfl⟩
  · rw [Lib.addr_add, xb_cell h, ← Array.getElem?_toList]
    rw [Nat.zero_mul, Nat.zero_add, Nat.zero_add]
    exact hi
end Ses
/-- A compressed number, written. -/
theorem put_packed (x : Int) (h0 : 0 ≤ x) (h1 : x < 18446744073709551616) (w : World) :
    Calls Tryd.prog 16 #[.slice (some ⟨w.heap.size, 0, none⟩) 1 1, .bool false, .int .i64 64] (w.alloc (.cells #[.int .i64 3, .slice none 0 0, .slice none 0 0, .int .i64 0, .int .u64 x, .int .u8 8, .int .u8 0, .bool false, .bool true] 29)) fun e w' => ∃ v, e = .returned v ∧ Kd.R (Kd.int .u8) 5 w' w.heap.size (fun _ => True) v (Dg.packed x) ∧ Below w.heap.size w w' := by
  have hC := Ses.ps_one (w := w.alloc (.cells #[.int .i64 3, .slice none 0 0, .slice none 0 0, .int .i64 0, .int .u64 x, .int .u8 8, .int .u8 0, .bool false, .bool true] 29)) (g := w.heap.size) (p := ⟨3, [], [], 0, x, 8, 0, false, true⟩) (A := none) (B := none) (cA := 0) (cB := 0) (C_empty _ _ _) (Nat.le_refl _) (C_empty _ _ _) (Nat.le_refl _) (xb_new w _)
  have h := sessionPut_any [⟨3, [], [], 0, x, 8, 0, false, true⟩] (some ⟨w.heap.size, 0, none⟩) 1 false 64 _ hC (Nat.le_refl _) (fun p hp => by
    obtain rfl : p = ⟨3, [], [], 0, x, 8, 0, false, true⟩ := by simpa using hp
    refine ⟨by simp, by simp, by simp, fun h => ?_, fun _ => ⟨h0, .inr (.inr (.inr ⟨rfl, h1⟩))⟩⟩
    simp at h) (by simp) (by omega) (by omega)
  refine h.mono ?_
  rintro e w' ⟨v, rfl, hR, hb⟩
  have e : List.flatMap (Ses.stepB false 64) [⟨3, [], [], 0, x, 8, 0, false, true⟩] = Dg.packed x := by
    rw [List.flatMap_cons, List.flatMap_nil, List.append_nil]
    rfl
  rw [e] at hR
  have hz : w.heap.size ≤ (w.alloc (.cells #[.int .i64 3, .slice none 0 0, .slice none 0 0, .int .i64 0, .int .u64 x, .int .u8 8, .int .u8 0, .bool false, .bool true] 29)).heap.size := by rw [World.size_alloc]; omega
  exact ⟨v, rfl, Kd.R_lower hR hz, (below_alloc (Below.refl _ _) _).trans (hb.mono hz)⟩
def laws_FnSessionPacked.f (a b : Int) : Option Bool := if 0 ≤ a ∧ a < 18446744073709551616 ∧ 0 ≤ b ∧ b < 18446744073709551616 then some true else none
set_option maxHeartbeats 16000000 in
set_option maxRecDepth 100000 in
theorem laws_FnSessionPacked.calls (a b : Int) (r : Bool) (w : World) (h : laws_FnSessionPacked.f a b = some r) :
    Calls Tryd.prog 5 #[.int .u64 a, .int .u64 b] w fun e w' => e = .returned (.bool r) ∧ Below w.heap.size w w' := by
  unfold laws_FnSessionPacked.f at h
  split at h
  · rename_i hsz
    obtain ⟨ha0, ha1, hb0, hb1⟩ := hsz
    obtain rfl := Option.some.inj h
    clear h
    have ha8 : a < 256 ^ 8 := by omega
    have hb8 : b < 256 ^ 8 := by omega
    have HPa := Lib.hid (fun W => put_packed a ha0 ha1 W)
    have HPb := Lib.hid (fun W => put_packed b hb0 hb1 W)
    have hcm := Dg.cmp_packed a b ha0 ha8 hb0 hb8
    have hpl : (Dg.packed a).length = (Dg.dgF 8 a).length + 1 := by
      rw [Dg.packed, List.length_cons, List.length_reverse]
      rfl
    have hl8 : (Dg.dgF 8 a).length ≤ 8 := Dg.dgF_len 8 a
    have HA8 := Lib.hid ha8
    obtain ⟨pa, hpa⟩ : ∃ pa, pa = Dg.packed a := ⟨_, rfl⟩
    obtain ⟨pb, hpb⟩ : ∃ pb, pb = Dg.packed b := ⟨_, rfl⟩
    rw [← hpa] at HPa hcm hpl
    rw [← hpb] at HPb hcm
    obtain ⟨k, hk⟩ : ∃ k, k = pa.length := ⟨_, rfl⟩
    obtain ⟨kb, hkb⟩ : ∃ kb, kb = pb.length := ⟨_, rfl⟩
    obtain ⟨dl, hdl⟩ : ∃ dl, dl = (Dg.dgF 8 a).length := ⟨_, rfl⟩
    rw [← hdl] at hpl hl8
    rw [← hk] at hpl
    obtain ⟨ord, hord⟩ : ∃ ord, ord = Lib.compareBytes (Lib.bytesOf pa) (Lib.bytesOf pb) := ⟨_, rfl⟩
    rw [← hord] at hcm
    have HCm := Lib.hid (fun (A B : Option Addr) (cA cB : Nat) (W : World) (hA : Kd.C (Kd.int .u8) W A pa.length pa) (hB : Kd.C (Kd.int .u8) W B pb.length pb) => bytesCompare_ok A cA pa B cB pb W hA hB)
    rw [← hord, ← hk, ← hkb] at HCm
    have HK := Lib.hid hk
    have HKb := Lib.hid hkb
    have HDl := Lib.hid hdl
    have HPl := Lib.hid hpl
    clear hpa hpb hk hkb hdl hord hpl ha1 hb1 ha8 hb8
    have main : ∀ (t1 : decide (ord < 0) = decide (a < b)) (t2 : (ord == 0) = (a == b)), Calls Tryd.prog 5 #[.int .u64 a, .int .u64 b] w fun e w' => e = .returned (.bool true) ∧ Below w.heap.size w w' := by
      intro t1 t2
      clear hcm
      have T1 := Lib.hid t1
      have T2 := Lib.hid t2
      clear t1 t2
      obtain ⟨q1, hq1⟩ : ∃ q, q = decide (a < b) := ⟨_, rfl⟩
      obtain ⟨q2, hq2⟩ : ∃ q, q = (a == b) := ⟨_, rfl⟩
      rw [← hq1] at T1
      rw [← hq2] at T2
      have u1 : decide (ord < 0) = q1 := T1.out
      have u2 : (ord == 0) = q2 := T2.out
      have v1 : decide (a < b) = q1 := hq1.symm
      have v2 : (a == b) = q2 := hq2.symm
      clear hq1 hq2 T1 T2
      have HU := Lib.hid (And.intro u1 u2)
      have HV := Lib.hid (And.intro v1 v2)
      clear u1 u2 v1 v2
      go_enter Tryd.func5, Tryd.ntmps5
      go_wp2_with (first | (go_at_call 16; (with_reducible refine (HPa.out _).mono ?_); rintro e w1 ⟨v1, rfl, hR1, hb1⟩; obtain ⟨A1, c1, rfl, -, hC1, -, -⟩ := Ses.R_slots hR1; have HC1 := Lib.hid hC1; have HB1 := Lib.hid hb1; clear hR1 hC1 hb1; rw [← HK.out]) | (go_at_call 16; (with_reducible refine (HPb.out _).mono ?_); rintro e w2 ⟨v2, rfl, hR2, hb2⟩; obtain ⟨A2, c2, rfl, -, hC2, -, -⟩ := Ses.R_slots hR2; have HC2 := Lib.hid hC2; have HB2 := Lib.hid hb2; clear hR2 hC2 hb2; rw [← HKb.out]))
      go_loop [7, 8] (fun v7 v8 => ∃ (x : Int) (m s : Nat), v8 = .int .u64 x ∧ v7 = .int .i64 s ∧ 0 ≤ x ∧ s ≤ 9 ∧ Hid (x < 256 ^ m ∧ s + (Dg.dgF m x).length = dl + 1)) (fun _ v8 => (intOf v8).toNat)
      case atStart => exact ⟨a, 8, 1, rfl, rfl, ha0, by omega, Lib.hid ⟨HA8.out, by rw [← HDl.out]; omega⟩⟩
      case round =>
        obtain ⟨x, m, s, rfl, rfl, hx0, hs9, HX⟩ := hrel
        by_cases hx : 0 < x
        · have t0 : decide (x > 0) = true := decide_eq_true hx
          go_wp2
          go_round
          case measure => simp [intOf]; omega
          case rel =>
            obtain ⟨hxm, hsl⟩ := HX.out
            match m, hxm, hsl with
            | 0, hxm, _ => rw [Int.pow_zero] at hxm; omega
            | m + 1, hxm, hsl =>
              rw [Int.pow_succ] at hxm
              rw [Dg.dgF, if_neg (by omega), List.length_cons] at hsl
              exact ⟨x / 256, m, s + 1, rfl, by go_num, by omega, by omega, Lib.hid ⟨by omega, by omega⟩⟩
        · have hx00 : x = 0 := by omega
          subst hx00
          have hsk : s = k := by
            have := HX.out.2
            rw [Dg.dgF_zero] at this
            have := HPl.out
            simp at *
            omega
          subst hsk
          obtain ⟨u1, u2⟩ := HU.out
          obtain ⟨v1, v2⟩ := HV.out
          go_wp2_with (first | (go_at_call 20; (with_reducible refine (HCm.out _ _ _ _ _ ?hA ?hB).mono ?_); (case hA => (rw [HK.out]; exact Kd.C_below HC1.out HB2.out)); (case hB => (rw [HKb.out]; exact HC2.out)); rintro e w3 ⟨rfl, rfl⟩) | (go_at_call 14; (with_reducible refine (sessionLive_calls _).mono ?_); rintro e w4 ⟨rfl, hb4⟩))
          go_ret
          exact ⟨rfl, bl_trans (bl_trans HB1.out HB2.out) hb4⟩
    by_cases h1 : a < b
    · rw [if_pos h1] at hcm
      subst hcm
      refine main ?_ ?_
      · rw [decide_eq_true h1]; rfl
      · rw [beq_eq_false_iff_ne.2 (by omega : a ≠ b)]; rfl
    · by_cases h2 : b < a
      · rw [if_neg h1, if_pos h2] at hcm
        subst hcm
        refine main ?_ ?_
        · rw [decide_eq_false h1]; rfl
        · rw [beq_eq_false_iff_ne.2 (by omega : a ≠ b)]; rfl
      · rw [if_neg h1, if_neg h2] at hcm
        subst hcm
        refine main ?_ ?_
        · rw [decide_eq_false h1]; rfl
        · rw [beq_iff_eq.2 (by omega : a = b)]; rfl
  · cases h
end Go.Proofs.YtdnahdddkagfhaaDoor.X
