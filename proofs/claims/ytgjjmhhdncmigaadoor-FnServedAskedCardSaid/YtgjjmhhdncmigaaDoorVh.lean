/- The law FnServedAsked: its walk. -/
import Derived.Test.YtgjjmhhdncmigaaDoorVf
import Derived.Test.YtgjjmhhdncmigaaDoorVo
namespace Go.Proofs.YtgjjmhhdncmigaaDoor.X
open Go.RowKit Go.Proofs.YtgjjmhhdncmigaaDoorW.PrintWords Go.Proofs.YtgjjmhhdncmigaaDoorW.PrintMore
attribute [local go_sem] setCell_drewN alloc_drewN
set_option linter.unusedVariables false
set_option linter.unusedSimpArgs false
def laws_FnServedAsked.f (ps : List Sv.Stp) : Option Bool := some true
namespace Sv
theorem asking_snoc (l : List Stp) (x : Stp) : asking (l ++ [x]) = asking l ++ [x, (1, ⟨#[]⟩, ⟨#[]⟩, 0)] := by
  unfold asking
  rw [List.flatMap_append]
  rfl
theorem ok_asking (l : List Stp) (h : ∀ x ∈ l, Ok x.2) : ∀ x ∈ asking l, Ok x.2 := by
  intro x hx
  obtain ⟨y, hy, hx⟩ := List.mem_flatMap.1 hx
  simp only [List.mem_cons, List.not_mem_nil, or_false] at hx
  rcases hx with rfl | rfl
  · exact h _ hy
  · exact ⟨by decide, by decide, by decide⟩
theorem stp2_C {w : World} {g : Nat} {k : Int} {p a : ByteArray} {n : Int} {ty : TypeId} {fr : Nat × Nat} (hb : w.heap[g]? = some (.cells #[.int .i64 k, .string p, .string a, .int .i64 n, .int .i64 1, .string ⟨#[]⟩, .string ⟨#[]⟩, .int .i64 0] ty fr)) : stpKd.C w (some ⟨g, 0, none⟩) 2 [(k, p, a, n), (1, ⟨#[]⟩, ⟨#[]⟩, 0)] := by
  refine row_C (d := stpKd) (xs := [(k, p, a, n), (1, ⟨#[]⟩, ⟨#[]⟩, 0)]) hb (by simp) (fun j q hj => ?_)
  match j, hj with
  | 0, hj =>
    obtain rfl := Option.some.inj hj
    refine ⟨[.int .i64 k, .string p, .string a, .int .i64 n], rfl, ⟨[_], _, rfl, rfl, [_], _, rfl, rfl, [_], _, rfl, rfl, rfl⟩, fun i u hi => ?_⟩
    match i, hi with
    | 0, hi => exact hi
    | 1, hi => exact hi
    | 2, hi => exact hi
    | 3, hi => exact hi
  | 1, hj =>
    obtain rfl := Option.some.inj hj
    refine ⟨[.int .i64 1, .string ⟨#[]⟩, .string ⟨#[]⟩, .int .i64 0], rfl, ⟨[_], _, rfl, rfl, [_], _, rfl, rfl, [_], _, rfl, rfl, rfl⟩, fun i u hi => ?_⟩
    match i, hi with
    | 0, hi => exact hi
    | 1, hi => exact hi
    | 2, hi => exact hi
    | 3, hi => exact hi
end Sv
set_option maxHeartbeats 16000000 in
set_option maxRecDepth 100000 in
theorem laws_FnServedAsked.calls (A0 : Option Addr) (c0 : Nat) (ps : List Sv.Stp) (r : Bool) (w : World) (hr0 : Sv.stpKd.C w A0 ps.length ps) (hc0 : ps.length ≤ c0) (h : laws_FnServedAsked.f ps = some r) :
    Calls Tryd.prog 3 #[.slice A0 ps.length c0] w fun e w' => e = .returned (.bool r) ∧ Below w.heap.size w w' := by
  have infT : (Tryd.prog.info? 32).map (fun i => (i.zero, i.size, i.bytes)) = some (some (.agg #[.int .i64 0, .string ⟨#[]⟩, .string ⟨#[]⟩, .int .i64 0]), 4, 48) := by kernel_rfl
  obtain rfl := Option.some.inj h
  clear h
  have HR := Lib.hid hr0
  obtain ⟨n, hnl⟩ : ∃ n, n = ps.length := ⟨_, rfl⟩
  have HN := Lib.hid hnl
  have HZ : Hid (∀ W : World, Below w.heap.size w W → Calls Tryd.prog 5 #[.slice A0 n c0] W fun e w' => Sv.BlP (ps.length ≤ 2147483647) e ∧ Below W.heap.size W w') := Lib.hid (fun W hW => by rw [hnl]; exact zzFits2_ok ps A0 c0 W (Kd.C_below hr0 hW))
  have HCg : Hid (∀ W : World, Below w.heap.size w W → ps.length ≤ 2147483647 → Calls Tryd.prog 6 #[.slice A0 n c0] W fun e w' => Sv.BlP (ps.length ≤ 100 ∧ ∀ x ∈ ps, Sv.Ok x.2) e ∧ Below W.heap.size W w') := Lib.hid (fun W hW h => by rw [hnl]; exact configSteps_ok ps A0 c0 W (Kd.C_below hr0 hW) h)
  have HSp : Hid (∀ W : World, Below w.heap.size w W → (ps.length ≤ 100 ∧ ∀ x ∈ ps, Sv.Ok x.2) → Calls Tryd.prog 8 #[.slice A0 n c0] W fun e w' => Sv.SpecR 30 4 ps W.heap.size e w' ∧ Below W.heap.size W w') := Lib.hid (fun W hW h => by rw [hnl]; exact specServed_ok ps A0 c0 W (Kd.C_below hr0 hW) h.1 h.2)
  have HIm : Hid (∀ W : World, Below w.heap.size w W → (ps.length ≤ 100 ∧ ∀ x ∈ ps, Sv.Ok x.2) → Calls Tryd.prog 9 #[.slice A0 n c0] W fun e w' => (∃ v1 v2 v3, e = .returned (.tuple #[v1, v2, v3]) ∧ Sv.srvKd.R 30 w' W.heap.size (fun _ => True) v1 (Sv.gots ps) ∧ Kd.bool.R 4 w' W.heap.size (fun _ => True) v2 (Sv.oks ps) ∧ Sv.srvKd.R 30 w' W.heap.size (fun _ => True) v3 (Sv.st ps).1) ∧ Below W.heap.size W w') := Lib.hid (fun W hW h => by rw [hnl]; exact implServed_ok ps A0 c0 W (Kd.C_below hr0 hW) (by omega) h.2)
  have HJm : Hid (∀ (W : World) (A : Option Addr) (c : Nat), Sv.stpKd.C W A (Sv.asking ps).length (Sv.asking ps) → (ps.length ≤ 100 ∧ ∀ x ∈ ps, Sv.Ok x.2) → Calls Tryd.prog 9 #[.slice A (2 * n) c] W fun e w' => (∃ v1 v2 v3, e = .returned (.tuple #[v1, v2, v3]) ∧ Sv.srvKd.R 30 w' W.heap.size (fun _ => True) v1 (Sv.gots (Sv.asking ps)) ∧ Kd.bool.R 4 w' W.heap.size (fun _ => True) v2 (Sv.oks (Sv.asking ps)) ∧ Sv.srvKd.R 30 w' W.heap.size (fun _ => True) v3 (Sv.st ps).1) ∧ Below W.heap.size W w') := Lib.hid (fun W A c hC h => by
    have k := implServed_ok (Sv.asking ps) A c W hC (by rw [Sv.asking_len]; omega) (Sv.ok_asking ps h.2)
    rw [Sv.asking_len, Sv.st_asking, ← hnl] at k
    exact k)
  have hg : (Sv.gots ps).length = n := by rw [Sv.gots_len, hnl]
  have ho : (Sv.oks ps).length = n := by rw [Sv.oks_len, hnl]
  have hg2 : (Sv.gots (Sv.asking ps)).length = 2 * n := by rw [Sv.gots_len, Sv.asking_len, hnl]
  have ho2 : (Sv.oks (Sv.asking ps)).length = 2 * n := by rw [Sv.oks_len, Sv.asking_len, hnl]
  obtain ⟨m, hm⟩ : ∃ m, m = (Sv.st ps).1.length := ⟨_, rfl⟩
  have HG := Lib.hid hg
  have HO := Lib.hid ho
  have HG2 := Lib.hid hg2
  have HO2 := Lib.hid ho2
  have HM := Lib.hid hm
  rw [← hnl]
  clear hr0 hc0 hnl hg ho hg2 ho2 hm
  go_enter Tryd.func3, Tryd.ntmps3
  go_wp2_with (first
    | (go_at_call 5; (with_reducible refine (HZ.out _ (Below.refl _ _)).mono ?_); rintro e w1 ⟨⟨b1, rfl, h1⟩, hb1⟩; have HF1 := Lib.hid h1; have HB1 := Lib.hid hb1; clear h1 hb1; cases b1)
    | (go_at_call 6; (with_reducible refine (HCg.out _ HB1.out (HF1.out (by simp))).mono ?_); rintro e w2 ⟨⟨b2, rfl, h2⟩, hb2⟩; have HF2 := Lib.hid h2; have HB2 := Lib.hid (HB1.out.trans (hb2.mono HB1.out.size)); clear h2 hb2; cases b2)
    | (go_at_call 8; (with_reducible refine (HSp.out _ HB2.out (HF2.out (by simp))).mono ?_); rintro e w3 ⟨hsp, hb3⟩; have HB3 := Lib.hid (HB2.out.trans (hb3.mono HB2.out.size)); clear hb3; rcases hsp with rfl | ⟨v1, v2, v3, rfl, h1, h2, h3⟩; rotate_left; obtain ⟨A1, c1, rfl⟩ := Kd.R_slice h1; obtain ⟨A2, c2, rfl⟩ := Kd.R_slice h2; obtain ⟨A3, c3, rfl⟩ := Kd.R_slice h3; clear h1 h2 h3; rotate_right)
    | (go_at_call 7; (with_reducible refine (servedAwake_ok _).mono ?_); rintro e w9 ⟨rfl, hb9⟩; have HB9 := Lib.hid hb9; clear hb9))
  all_goals first
    | (go_ret; exact ⟨rfl, HB1.out⟩)
    | (go_ret; exact ⟨rfl, HB2.out.trans (HB9.out.mono HB2.out.size)⟩)
    | (go_ret; exact ⟨rfl, HB3.out.trans (HB9.out.mono HB3.out.size)⟩)
    | skip
  have hn100 : n ≤ 100 := by have h1 := (HF2.out (by simp)).1; have h2 := HN.out; omega
  go_loopw [7, 36] (fun v7 v36 wr => ∃ j : Nat, v36 = .int .i64 j ∧ j ≤ n ∧ Hid (Sv.stpKd.R 32 wr w.heap.size (fun _ => True) v7 (Sv.asking (ps.take j))) ∧ Hid (Below w.heap.size w wr)) (fun _ v36 _ => n - (intOf v36).toNat)
  case atStart => exact ⟨0, rfl, Nat.zero_le _, Lib.hid (by rw [List.take_zero]; exact Kd.R_nil _ _ _ _ _), HB3⟩
  case round =>
    obtain ⟨j, rfl, hj, HRow, HB⟩ := hrel
    by_cases hlt : j < n
    · have hjl : j < ps.length := by rw [← HN.out]; exact hlt
      have t2 : decide ((j : Int) < (n : Int)) = true := decide_eq_true (by omega)
      obtain ⟨g0, o0, rfl, s0, s1, s2, s3⟩ := Sv.stp_at (Kd.C_below HR.out HB.out) j hjl
      have HP : Hid (ps.take (j + 1) = ps.take j ++ [ps[j]]) := Lib.hid (List.take_succ_eq_append_getElem hjl)
      generalize ps[j] = p at s0 s1 s2 s3 HP
      obtain ⟨kd, pr, ad, po⟩ := p
      simp only at s0 s1 s2 s3
      have HW : Hid (Below wr.heap.size wr ((wr.alloc (.cells #[.int .i64 kd, .string pr, .string ad, .int .i64 po] 32)).alloc (.cells #[.int .i64 kd, .string pr, .string ad, .int .i64 po, .int .i64 1, .string ⟨#[]⟩, .string ⟨#[]⟩, .int .i64 0] 32))) := Lib.hid (below_alloc (below_alloc (Below.refl _ _) _) _)
      have HL2 : Hid (Sv.stpKd.C ((wr.alloc (.cells #[.int .i64 kd, .string pr, .string ad, .int .i64 po] 32)).alloc (.cells #[.int .i64 kd, .string pr, .string ad, .int .i64 po, .int .i64 1, .string ⟨#[]⟩, .string ⟨#[]⟩, .int .i64 0] 32)) (some ⟨wr.heap.size + 1, 0, none⟩) 2 [(kd, pr, ad, po), (1, ⟨#[]⟩, ⟨#[]⟩, 0)]) := Lib.hid (Sv.stp2_C (by have h := xb_new (wr.alloc (.cells #[.int .i64 kd, .string pr, .string ad, .int .i64 po] 32)) (.cells #[.int .i64 kd, .string pr, .string ad, .int .i64 po, .int .i64 1, .string ⟨#[]⟩, .string ⟨#[]⟩, .int .i64 0] 32); rw [World.size_alloc] at h; exact h))
      go_wp2_with ((with_reducible refine gate_builtin (b := .append) (xs := #[.tmp 40, .tmp 43]) rfl ?_); at_builtin; refine Kd.R_append_rows Sv.stpKd (Rr := Sv.stpKd.K ((wr.alloc (.cells #[.int .i64 kd, .string pr, .string ad, .int .i64 po] 32)).alloc (.cells #[.int .i64 kd, .string pr, .string ad, .int .i64 po, .int .i64 1, .string ⟨#[]⟩, .string ⟨#[]⟩, .int .i64 0] 32))) (w0 := w) w.heap.size rfl (.tmp 40) (.tmp 43) 22 32 _ 48 rfl Tryd.underlying22 infT rfl (by decide) (by decide) u7 (Sv.asking (ps.take j)) [(kd, pr, ad, po), (1, ⟨#[]⟩, ⟨#[]⟩, 0)] (some ⟨wr.heap.size + 1, 0, none⟩) 2 2 (fun _ => True) (fun _ => False) ?aV ?aX ?aO ?aR ?aK (fun k hk => absurd hk id) (fun _ _ => trivial) ?aB ?aS ?aL ?_; (case aV => exact rfl); (case aX => exact rfl); (case aO => exact Kd.R_below HRow.out HW.out); (case aR => exact HL2.out); (case aK => exact fun x cs h => (by rw [Sv.stp_open h]; exact Sv.stp_make _ _ _ _ _ _ _)); (case aB => exact HB.out.trans (HW.out.mono HB.out.size)); (case aS => exact (HB.out.trans (HW.out.mono HB.out.size)).size); (case aL => (rw [Sv.asking_len, List.length_take]; omega)); intro v10 w10 ho hb hg hat; have HO10 := Lib.hid ho; have HB10 := Lib.hid hb; clear ho hb hg hat)
      go_roundw
      case measure => simp [intOf]; omega
      case rel => exact ⟨j + 1, by go_num, by omega, Lib.hid (by rw [HP.out, Sv.asking_snoc]; exact HO10.out), HB10⟩
    · have hjn : j = n := by omega
      subst hjn
      have t2 : decide ((j : Int) < (j : Int)) = false := decide_eq_false (by omega)
      have htk : ps.take j = ps := List.take_of_length_le (by have := HN.out; omega)
      rw [htk] at HRow
      obtain ⟨A7, c7, e7, -, hC7⟩ := Kd.R_reads HRow.out
      rw [Sv.asking_len, ← HN.out] at e7
      have HC7 := Lib.hid hC7
      clear hC7
      subst e7
      go_wp2_with (first
        | (go_at_call 9; (with_reducible refine (HIm.out _ HB.out (HF2.out (by simp))).mono ?_); rintro e w4 ⟨⟨v1, v2, v3, rfl, h1, h2, h3⟩, hb4⟩; have HB4 := Lib.hid (HB.out.trans (hb4.mono HB.out.size)); have HC74 := Lib.hid (Kd.C_below HC7.out hb4); clear hb4; obtain ⟨A1, d1, e1, -, hC1⟩ := Kd.R_reads h1; obtain ⟨A2, d2, e2, -, hC2⟩ := Kd.R_reads h2; obtain ⟨A3, d3, e3, -, hC3⟩ := Kd.R_reads h3; rw [HG.out] at e1; rw [HO.out] at e2; rw [← HM.out] at e3; subst e1; subst e2; subst e3; have HE1 := Lib.hid hC1; have HE2 := Lib.hid hC2; have HE3 := Lib.hid hC3; clear h1 h2 h3 hC1 hC2 hC3 HIm)
        | (go_at_call 9; (with_reducible refine (HJm.out _ _ _ HC74.out (HF2.out (by simp))).mono ?_); rintro e w5 ⟨⟨v1, v2, v3, rfl, h1, h2, h3⟩, hb5⟩; have HB5 := Lib.hid (HB4.out.trans (hb5.mono HB4.out.size)); have HD1 := Lib.hid (Kd.C_below HE1.out hb5); have HD2 := Lib.hid (Kd.C_below HE2.out hb5); have HD3 := Lib.hid (Kd.C_below HE3.out hb5); clear hb5; obtain ⟨B1, b1, e1, -, hC1⟩ := Kd.R_reads h1; obtain ⟨B2, b2, e2, -, hC2⟩ := Kd.R_reads h2; obtain ⟨B3, b3, e3, -, hC3⟩ := Kd.R_reads h3; rw [HG2.out] at e1; rw [HO2.out] at e2; rw [← HM.out] at e3; subst e1; subst e2; subst e3; have HF1' := Lib.hid hC1; have HF2' := Lib.hid hC2; have HF3' := Lib.hid hC3; have HEqS : Hid (Calls Tryd.prog 10 #[.slice A3 m d3, .slice B3 m b3] w5 fun e w' => e = .returned (.bool true) ∧ Below w5.heap.size w5 w') := Lib.hid (by have h := equalS_ok (Sv.st ps).1 A3 B3 d3 b3 w5 HD3.out HF3'.out; rw [← HM.out] at h; exact h); clear h1 h2 h3 hC1 hC2 hC3)
        | (go_at_call 10; (with_reducible refine HEqS.out.mono ?_); rintro e w6 ⟨rfl, hb6⟩; have HB6 := Lib.hid hb6; clear hb6))
      go_loopw [80] (fun v80 wx => ∃ i : Nat, v80 = .int .i64 i ∧ i ≤ j ∧ Hid (Below w5.heap.size w5 wx)) (fun v80 _ => j - (intOf v80).toNat)
      case atStart => exact ⟨0, rfl, Nat.zero_le _, HB6⟩
      case round =>
        obtain ⟨i, rfl, hi, HBr⟩ := hrel
        by_cases hij : i < j
        · have t3 : decide ((i : Int) < (j : Int)) = true := decide_eq_true (by omega)
          have t4 : (0 : Int) ≤ (i : Int) := Int.natCast_nonneg _
          have t5 : (i : Int) < (j : Int) := by omega
          have t6 : (0 : Int) ≤ 2 * (i : Int) := by omega
          have t7 : 2 * (i : Int) < 2 * (j : Int) := by omega
          have t8 : 2 * (i : Int) ≤ 1000 := by omega
          have hjl : i < (Sv.gots ps).length := by rw [HG.out]; exact hij
          have hjl2 : 2 * i < (Sv.gots (Sv.asking ps)).length := by rw [HG2.out]; omega
          obtain ⟨g0, o0, rfl, y0, y1, y2⟩ := Sv.srv_at (Kd.C_below HD1.out HBr.out) i hjl
          obtain ⟨g1, o1, rfl, z0, z1, z2⟩ := Sv.srv_at (Kd.C_below HF1'.out HBr.out) (2 * i) hjl2
          have e1 : (Sv.gots (Sv.asking ps))[2 * i] = (Sv.gots ps)[i] := by
            have h := Sv.gots_asking ps i
            rw [List.getElem?_eq_getElem hjl, List.getElem?_eq_getElem hjl2] at h
            exact Option.some.inj h
          rw [e1] at z0 z1 z2
          obtain ⟨⟨g2, o2, q2⟩, rfl, x0⟩ := Kd.at_bool (Kd.C_below HD2.out HBr.out) (i : Int) t4 (by have := HO.out; omega)
          obtain ⟨⟨g3, o3, q3⟩, rfl, x1⟩ := Kd.at_bool (Kd.C_below HF2'.out HBr.out) ((2 * i : Nat) : Int) (Int.natCast_nonneg _) (by have := HO2.out; omega)
          have e2 : rdOf false (Sv.oks (Sv.asking ps)) ((2 * i : Nat) : Int) = rdOf false (Sv.oks ps) (i : Int) := by
            simp only [rdOf, List.getD, Int.toNat_natCast, Sv.oks_asking]
          rw [e2] at x1
          generalize rdOf false (Sv.oks ps) (i : Int) = b at x0 x1
          generalize (Sv.gots ps)[i] = y at y0 y1 y2 z0 z1 z2
          obtain ⟨yp, ya, yn⟩ := y
          simp only at y0 y1 y2 z0 z1 z2
          rw [Int.toNat_natCast] at x0 x1
          cases b
          all_goals
            go_wp2
            go_quiet (skip)
            go_simp
            go_wp2
            go_roundw
            case measure => simp [intOf]; omega
            case rel => exact ⟨i + 1, by go_num, by omega, Lib.hid (HBr.out.trans ((bl_drewN _ _).mono HBr.out.size))⟩
        · have t3 : decide ((i : Int) < (j : Int)) = false := decide_eq_false (by omega)
          go_wp2_with (go_at_call 7; (with_reducible refine (servedAwake_ok _).mono ?_); rintro e w9 ⟨rfl, hb9⟩; have HB9 := Lib.hid hb9; clear hb9)
          go_ret
          exact ⟨rfl, HB5.out.trans ((HBr.out.trans (HB9.out.mono HBr.out.size)).mono HB5.out.size)⟩
end Go.Proofs.YtgjjmhhdncmigaaDoor.X
