/- The package's steps of servers. -/
import Derived.Test.YtgjjmhhdncmigaaDoorVd
namespace Go.Proofs.YtgjjmhhdncmigaaDoor.X
open Go.RowKit Go.Proofs.YtgjjmhhdncmigaaDoorW.PrintWords Go.Proofs.YtgjjmhhdncmigaaDoorW.PrintMore
attribute [local go_sem] setCell_drewN alloc_drewN
set_option linter.unusedVariables false
set_option linter.unusedSimpArgs false
set_option maxHeartbeats 16000000 in
set_option maxRecDepth 100000 in
theorem implServed_ok (l : List Sv.Stp) (A0 : Option Addr) (cA : Nat) (w : World) (hC : Sv.stpKd.C w A0 l.length l) (hn : l.length ≤ 200) (hok : ∀ x ∈ l, Sv.Ok x.2) :
    Calls Tryd.prog 9 #[.slice A0 l.length cA] w fun e w' => (∃ v1 v2 v3, e = .returned (.tuple #[v1, v2, v3]) ∧ Sv.srvKd.R 30 w' w.heap.size (fun _ => True) v1 (Sv.gots l) ∧ Kd.bool.R 4 w' w.heap.size (fun _ => True) v2 (Sv.oks l) ∧ Sv.srvKd.R 30 w' w.heap.size (fun _ => True) v3 (Sv.st l).1) ∧ Below w.heap.size w w' := by
  have infS : (Tryd.prog.info? 30).map (fun i => (i.zero, i.size, i.bytes)) = some (some (.agg #[.string ⟨#[]⟩, .string ⟨#[]⟩, .int .i64 0]), 3, 40) := by kernel_rfl
  have infB : (Tryd.prog.info? 4).map (fun i => (i.zero, i.size, i.bytes)) = some (some (.bool false), 1, 1) := by kernel_rfl
  have HC := Lib.hid hC
  have HOk := Lib.hid hok
  obtain ⟨n, hnl⟩ : ∃ n, n = l.length := ⟨_, rfl⟩
  have HN := Lib.hid hnl
  rw [← hnl] at hn ⊢
  clear hC hok hnl
  go_enter Tryd.func9, Tryd.ntmps9
  go_wp2
  go_loopw [6, 7, 17] (fun v6 v7 v17 wr => ∃ (j at_ : Nat) (all : List Sv.Srv) (v : Value), v17 = .int .i64 j ∧ j ≤ n ∧ Hid (Sv.st (l.take j) = (all, at_)) ∧ Hid (wr.heap[w.heap.size]? = some (.cells (Sv.infoC v (at_ : Int)) 46 (0, 0))) ∧ Hid (Sv.srvKd.R 30 wr w.heap.size (fun _ => True) v6 (Sv.gots (l.take j))) ∧ Hid (Kd.bool.R 4 wr w.heap.size (fun _ => True) v7 (Sv.oks (l.take j))) ∧ Hid (Sv.srvKd.R 49 wr w.heap.size (fun _ => True) v all) ∧ Hid (Sv.Sep v6 v7) ∧ Hid (Sv.Sep v6 v) ∧ Hid (Sv.Sep v7 v) ∧ Hid (Below w.heap.size w wr)) (fun _ _ v17 _ => n - (intOf v17).toNat)
  case atStart => exact ⟨0, 0, [], .slice none 0 0, rfl, Nat.zero_le _, Lib.hid (by simp [Sv.st]), Lib.hid (xb_new w _), Lib.hid (by rw [List.take_zero]; exact Kd.R_nil _ _ _ _ _), Lib.hid (by rw [List.take_zero]; exact Kd.R_nil _ _ _ _ _), Lib.hid (Kd.R_nil _ _ _ _ _), Lib.hid (Sv.Sep.nil _), Lib.hid (Sv.Sep.nil _), Lib.hid (Sv.Sep.nil _), Lib.hid (below_alloc (Below.refl _ _) _)⟩
  case round =>
    obtain ⟨j, at_, all, v, rfl, hj, HSt, HIr, HR6, HR7, HRv, HS67, HS6v, HS7v, HB⟩ := hrel
    by_cases hlt : j < n
    · have hjl : j < l.length := by rw [← HN.out]; exact hlt
      have t2 : decide ((j : Int) < (n : Int)) = true := decide_eq_true (by omega)
      obtain ⟨g0, o0, rfl, s0, s1, s2, s3⟩ := Sv.stp_at (Kd.C_below HC.out HB.out) j hjl
      have HP : Hid (l.take (j + 1) = l.take j ++ [l[j]]) := Lib.hid (List.take_succ_eq_append_getElem hjl)
      have HM : Hid (l[j] ∈ l) := Lib.hid (List.getElem_mem hjl)
      have hst := Sv.st_len (l.take j)
      rw [HSt.out, List.length_take] at hst
      have HMem : Hid (∀ y ∈ all, Sv.Ok y) := Lib.hid (by
        have h := Sv.st_mem (P := Sv.Ok) (l.take j) (fun x hx => HOk.out x (List.mem_of_mem_take hx))
        rw [HSt.out] at h
        exact h)
      generalize l[j] = p at s0 s1 s2 s3 HP HM
      obtain ⟨kd, pr, ad, po⟩ := p
      have HOp : Hid (Sv.Ok (pr, ad, po)) := Lib.hid (HOk.out _ HM.out)
      simp only at s0 s1 s2 s3 hst
      obtain ⟨hst1, hst2⟩ := hst
      obtain ⟨A, c, e7, hc7, hC7⟩ := Kd.R_reads HRv.out
      have HC7 := Lib.hid hC7
      obtain ⟨m, hm⟩ : ∃ m, m = all.length := ⟨_, rfl⟩
      rw [← hm] at e7 hc7 hst1
      have HMl := Lib.hid hm
      clear hC7 hm
      subst e7
      have HNE6 : Hid (u6.ownBlock ≠ some w.heap.size) := Lib.hid (fun e => Kd.R_ne HR6.out HIr.out (by decide) e.symm)
      have HNE7 : Hid (u7.ownBlock ≠ some w.heap.size) := Lib.hid (fun e => Kd.R_ne HR7.out HIr.out (by decide) e.symm)
      have HNEv : Hid ((Value.slice A m c).ownBlock ≠ some w.heap.size) := Lib.hid (fun e => Kd.R_ne HRv.out HIr.out (by decide) e.symm)
      have HNA : Hid (∀ g o, A = some ⟨g, o, none⟩ → g ≠ w.heap.size) := Lib.hid (fun g o e e2 => HNEv.out (by rw [e, e2]; rfl))
      by_cases k0 : kd = 0
      · subst k0
        have HW1 : Hid (Below wr.heap.size wr (wr.alloc (.cells #[.int .i64 0, .string pr, .string ad, .int .i64 po] 32))) := Lib.hid (below_alloc (Below.refl _ _) _)
        have HI1 := Lib.hid (blk_bl HIr.out HW1.out (xb_lt HIr.out))
        have HR61 := Lib.hid (Kd.R_below HR6.out HW1.out)
        have HR71 := Lib.hid (Kd.R_below HR7.out HW1.out)
        have HRv1 := Lib.hid (Kd.R_below HRv.out HW1.out)
        have HB1 : Hid (Below w.heap.size w (wr.alloc (.cells #[.int .i64 0, .string pr, .string ad, .int .i64 po] 32))) := Lib.hid (HB.out.trans (HW1.out.mono HB.out.size))
        go_wp2_with (first
          | (go_at_call 18; (with_reducible refine (serverOf_ok _ _ _ _).mono ?_); rintro e w4 ⟨rfl, hb4⟩; have HI4 := Lib.hid (blk_bl HI1.out hb4 (xb_lt HI1.out)); have HR64 := Lib.hid (Kd.R_below HR61.out hb4); have HR74 := Lib.hid (Kd.R_below HR71.out hb4); have HRv4 := Lib.hid (Kd.R_below HRv1.out hb4); have HB4 := Lib.hid (HB1.out.trans (hb4.mono HB1.out.size)); clear hb4; (clear HI1 HR61 HR71 HRv1 HB1); have HR61 := HR64; have HR71 := HR74; have HB1 := HB4)
          | (go_at_call 17; (refine (addServer_ok all (pr, ad, po) A m c (at_ : Int) w.heap.size w.heap.size w4 HI4.out HRv4.out HMl.out (Nat.le_refl _) (by omega) HMem.out HOp.out).mono ?_); rintro e w5 ⟨rfl, v5, hi5, hr5, hb5, hf5, ht5⟩; have HS6n : Hid (Sv.Sep u6 v5) := Lib.hid (Sv.Sep.symm (Sv.Sep.new HS6v.out.symm ht5 (Kd.R_lt HR64.out))); have HS7n : Hid (Sv.Sep u7 v5) := Lib.hid (Sv.Sep.symm (Sv.Sep.new HS7v.out.symm ht5 (Kd.R_lt HR74.out))); have HR6w : Hid (Sv.srvKd.R 30 (w5.alloc (.cells #[.string ⟨#[]⟩, .string ⟨#[]⟩, .int .i64 0] 30)) w.heap.size (fun _ => True) u6 (Sv.gots (l.take j))) := Lib.hid (Kd.R_alloc (hf5.R rfl HR61.out HNE6.out HS6v.out.symm) (.cells #[.string ⟨#[]⟩, .string ⟨#[]⟩, .int .i64 0] 30)); have HR7w : Hid (Kd.bool.R 4 (w5.alloc (.cells #[.string ⟨#[]⟩, .string ⟨#[]⟩, .int .i64 0] 30)) w.heap.size (fun _ => True) u7 (Sv.oks (l.take j))) := Lib.hid (Kd.R_alloc (hf5.R rfl HR71.out HNE7.out HS7v.out.symm) (.cells #[.string ⟨#[]⟩, .string ⟨#[]⟩, .int .i64 0] 30)); have HRvw := Lib.hid (Kd.R_alloc (hr5) (.cells #[.string ⟨#[]⟩, .string ⟨#[]⟩, .int .i64 0] 30)); have HIw := Lib.hid (xb_alloc (o' := (.cells #[.string ⟨#[]⟩, .string ⟨#[]⟩, .int .i64 0] 30)) (hi5)); have HBw : Hid (Below w.heap.size w (w5.alloc (.cells #[.string ⟨#[]⟩, .string ⟨#[]⟩, .int .i64 0] 30))) := Lib.hid (below_alloc (HB1.out.trans (hb5)) (.cells #[.string ⟨#[]⟩, .string ⟨#[]⟩, .int .i64 0] 30)); clear hi5 hr5 hb5 hf5 ht5)
          | ((with_reducible refine gate_builtin (b := .append) (xs := #[.tmp 44, .tmp 46]) rfl ?_); at_builtin; refine Kd.R_append Sv.srvKd (w0 := w) w.heap.size rfl (.tmp 44) (.tmp 46) 25 30 _ 40 rfl Tryd.underlying25 infS rfl (by decide) (by decide) u6 (Sv.gots (l.take j)) (⟨#[]⟩, ⟨#[]⟩, 0) [.string ⟨#[]⟩, .string ⟨#[]⟩, .int .i64 0] (fun _ => True) (fun k => False) ?aV ?aX ?aP ?aK (fun _ _ => trivial) ?aO ?aB ?aS ?aL ?_; (case aV => exact rfl); (case aX => first | exact rfl | (simp only [World.size_alloc, World.size_setCell]; exact rfl)); (case aP => exact Sv.srv_make _ _ _ _ _ _); (case aK => exact fun k hk => absurd hk id); (case aO => exact HR6w.out); (case aB => exact HBw.out); (case aS => exact HBw.out.size); (case aL => (rw [Sv.gots_len, List.length_take]; omega)); intro v10 w10 ho hb hg hat; have hn6 : u6.ownBlock ≠ some w.heap.size := fun e => Kd.R_ne HR6w.out HIw.out (by decide) e.symm; have HR7a := Lib.hid (Sv.R_keep2 HR7w.out rfl hg HS67.out); have HRva := Lib.hid (Sv.R_keep2 HRvw.out rfl hg HS6n.out); have HIa := Lib.hid ((hg.block w.heap.size (xb_lt HIw.out) (fun e => hn6 e.symm)).trans HIw.out); have HS67a := Lib.hid (Sv.Sep.new HS67.out hat (Kd.R_lt HR7w.out)); have HS6va := Lib.hid (Sv.Sep.new HS6n.out hat (Kd.R_lt HRvw.out)); have HO10 := Lib.hid ho; have HB10 := Lib.hid hb; clear ho hb hg hat hn6)
          | ((with_reducible refine gate_builtin (b := .append) (xs := #[.tmp 48, .tmp 51]) rfl ?_); at_builtin; refine Kd.R_append Kd.bool (w0 := w) w.heap.size rfl (.tmp 48) (.tmp 51) 26 4 _ 1 rfl Tryd.underlying26 infB rfl (by decide) (by decide) u7 (Sv.oks (l.take j)) false [.bool false] (fun _ => True) (fun k => False) ?aV ?aX ?aP ?aK (fun _ _ => trivial) ?aO ?aB ?aS ?aL ?_; (case aV => exact rfl); (case aX => exact rfl); (case aP => exact rfl); (case aK => exact fun k hk => absurd hk id); (case aO => exact HR7a.out); (case aB => exact HB10.out); (case aS => exact HB10.out.size); (case aL => (rw [Sv.oks_len, List.length_take]; omega)); intro v11 w11 ho hb hg hat; have hn7 : u7.ownBlock ≠ some w.heap.size := fun e => Kd.R_ne HR7a.out HIa.out (by decide) e.symm; have HR6b := Lib.hid (Sv.R_keep2 HO10.out rfl hg HS67a.out.symm); have HRvb := Lib.hid (Sv.R_keep2 HRva.out rfl hg HS7n.out); have HIb := Lib.hid ((hg.block w.heap.size (xb_lt HIa.out) (fun e => hn7 e.symm)).trans HIa.out); have HS67b := Lib.hid (Sv.Sep.symm (Sv.Sep.new HS67a.out.symm hat (Kd.R_lt HO10.out))); have HS7vb := Lib.hid (Sv.Sep.new HS7n.out hat (Kd.R_lt HRva.out)); have HO11 := Lib.hid ho; have HB11 := Lib.hid hb; clear ho hb hg hat hn7))
        go_roundw
        case measure => simp [intOf]; omega
        case rel =>
          have hN : Sv.st (l.take (j + 1)) = ((if Sv.has all (pr, ad, po) then all else all ++ [(pr, ad, po)]), at_) := by
            rw [HP.out, Sv.st_snoc, HSt.out]
            rfl
          have hT : Sv.tel (Sv.st (l.take j)) (0, pr, ad, po) = none := by
            rw [HSt.out]
            rfl
          refine ⟨j + 1, at_, (if Sv.has all (pr, ad, po) then all else all ++ [(pr, ad, po)]), v5, by go_num, by omega, Lib.hid hN, HIb, Lib.hid ?_, Lib.hid ?_, HRvb, HS67b, HS6va, HS7vb, HB11⟩
          · rw [HP.out, Sv.gots_snoc, hT]; exact HR6b.out
          · rw [HP.out, Sv.oks_snoc, hT]; exact HO11.out
      by_cases k1 : kd = 1
      · subst k1
        have HW1 : Hid (Below wr.heap.size wr (wr.alloc (.cells #[.int .i64 1, .string pr, .string ad, .int .i64 po] 32))) := Lib.hid (below_alloc (Below.refl _ _) _)
        have HI1 := Lib.hid (blk_bl HIr.out HW1.out (xb_lt HIr.out))
        have HR61 := Lib.hid (Kd.R_below HR6.out HW1.out)
        have HR71 := Lib.hid (Kd.R_below HR7.out HW1.out)
        have HRv1 := Lib.hid (Kd.R_below HRv.out HW1.out)
        have HB1 : Hid (Below w.heap.size w (wr.alloc (.cells #[.int .i64 1, .string pr, .string ad, .int .i64 po] 32))) := Lib.hid (HB.out.trans (HW1.out.mono HB.out.size))
        have HC1 : Hid (Sv.srvKd.C (wr.alloc (.cells #[.int .i64 1, .string pr, .string ad, .int .i64 po] 32)) A all.length all) := Lib.hid (Kd.C_below HC7.out HW1.out)
        by_cases hin : at_ < m
        · obtain ⟨y, hy⟩ : ∃ y, all[at_]? = some y := ⟨_, List.getElem?_eq_getElem (by have := HMl.out; omega)⟩
          obtain ⟨yp, ya, yn⟩ := y
          have HY := Lib.hid hy
          clear hy
          go_wp2_with (first
            | (go_at_call 19; (refine (getActive_ok false all A m c at_ at_ w.heap.size w.heap.size _ rfl HI1.out HC1.out HMl.out (Nat.le_refl _) (by omega) HNA.out).mono ?_); rintro e w4 ⟨ptr, rfl, hi4, hb4, hf4, hp4⟩; rw [HY.out] at hp4; obtain ⟨g4, o4, rfl, y0, y1, y2⟩ := hp4; have y0z := cell_alloc (.cells #[.string ⟨#[]⟩, .string ⟨#[]⟩, .int .i64 0] 30) y0; have y1z := cell_alloc (.cells #[.string ⟨#[]⟩, .string ⟨#[]⟩, .int .i64 0] 30) y1; have y2z := cell_alloc (.cells #[.string ⟨#[]⟩, .string ⟨#[]⟩, .int .i64 0] 30) y2; have HR64 := Lib.hid (hf4.R rfl HR61.out HNE6.out (Sv.Sep.nil _)); have HR74 := Lib.hid (hf4.R rfl HR71.out HNE7.out (Sv.Sep.nil _)); have HRv4 := Lib.hid (hf4.R rfl HRv1.out HNEv.out (Sv.Sep.nil _)); have HI4 := Lib.hid hi4; have HB4 := Lib.hid (HB1.out.trans hb4); clear hi4 hb4 hf4)
            | (go_at_call 21; (with_reducible refine (plainServer_ok _ _ _ _).mono ?_); rintro e w6 ⟨rfl, hb6⟩; have hq : w6.heap[w4.heap.size]? = some (.cells #[.string ⟨#[]⟩, .string ⟨#[]⟩, .int .i64 0] 30 (0, 0)) := blk_bl (xb_new w4 (.cells #[.string ⟨#[]⟩, .string ⟨#[]⟩, .int .i64 0] 30)) hb6 (by rw [World.size_alloc]; exact Nat.lt_succ_self _); have z0 := xb_cell hq 0; have z1 := xb_cell hq 1; have z2 := xb_cell hq 2; have f0 := blk_free hq 0; have f1 := blk_free hq 1; have f2 := blk_free hq 2; have HWs : Hid (Below w4.heap.size w4 (((w6.setCell ⟨w4.heap.size, 0, none⟩ (.string yp)).setCell ⟨w4.heap.size, 1, none⟩ (.string ya)).setCell ⟨w4.heap.size, 2, none⟩ (.int .i64 yn))) := Lib.hid ((((((below_alloc (Below.refl _ _) _).trans (hb6.mono (by rw [World.size_alloc]; omega))).setCell (Nat.le_refl _) _).setCell (Nat.le_refl _) _).setCell (Nat.le_refl _) _)); clear hq hb6; have HR6w : Hid (Sv.srvKd.R 30 ((((w6.setCell ⟨w4.heap.size, 0, none⟩ (.string yp)).setCell ⟨w4.heap.size, 1, none⟩ (.string ya)).setCell ⟨w4.heap.size, 2, none⟩ (.int .i64 yn))) w.heap.size (fun _ => True) u6 (Sv.gots (l.take j))) := Lib.hid (Kd.R_below HR64.out HWs.out); have HR7w : Hid (Kd.bool.R 4 ((((w6.setCell ⟨w4.heap.size, 0, none⟩ (.string yp)).setCell ⟨w4.heap.size, 1, none⟩ (.string ya)).setCell ⟨w4.heap.size, 2, none⟩ (.int .i64 yn))) w.heap.size (fun _ => True) u7 (Sv.oks (l.take j))) := Lib.hid (Kd.R_below HR74.out HWs.out); have HRvw := Lib.hid (Kd.R_below HRv4.out HWs.out); have HIw := Lib.hid (blk_bl HI4.out HWs.out (xb_lt HI4.out)); have HBw : Hid (Below w.heap.size w ((((w6.setCell ⟨w4.heap.size, 0, none⟩ (.string yp)).setCell ⟨w4.heap.size, 1, none⟩ (.string ya)).setCell ⟨w4.heap.size, 2, none⟩ (.int .i64 yn)))) := Lib.hid (HB4.out.trans (HWs.out.mono HB4.out.size)))
            | ((with_reducible refine gate_builtin (b := .append) (xs := #[.tmp 44, .tmp 46]) rfl ?_); at_builtin; refine Kd.R_append Sv.srvKd (w0 := w) w.heap.size rfl (.tmp 44) (.tmp 46) 25 30 _ 40 rfl Tryd.underlying25 infS rfl (by decide) (by decide) u6 (Sv.gots (l.take j)) (yp, ya, yn) [.string yp, .string ya, .int .i64 yn] (fun _ => True) (fun k => False) ?aV ?aX ?aP ?aK (fun _ _ => trivial) ?aO ?aB ?aS ?aL ?_; (case aV => exact rfl); (case aX => first | exact rfl | (simp only [World.size_alloc, World.size_setCell]; exact rfl)); (case aP => exact Sv.srv_make _ _ _ _ _ _); (case aK => exact fun k hk => absurd hk id); (case aO => exact HR6w.out); (case aB => exact HBw.out); (case aS => exact HBw.out.size); (case aL => (rw [Sv.gots_len, List.length_take]; omega)); intro v10 w10 ho hb hg hat; have hn6 : u6.ownBlock ≠ some w.heap.size := fun e => Kd.R_ne HR6w.out HIw.out (by decide) e.symm; have HR7a := Lib.hid (Sv.R_keep2 HR7w.out rfl hg HS67.out); have HRva := Lib.hid (Sv.R_keep2 HRvw.out rfl hg HS6v.out); have HIa := Lib.hid ((hg.block w.heap.size (xb_lt HIw.out) (fun e => hn6 e.symm)).trans HIw.out); have HS67a := Lib.hid (Sv.Sep.new HS67.out hat (Kd.R_lt HR7w.out)); have HS6va := Lib.hid (Sv.Sep.new HS6v.out hat (Kd.R_lt HRvw.out)); have HO10 := Lib.hid ho; have HB10 := Lib.hid hb; clear ho hb hg hat hn6)
            | ((with_reducible refine gate_builtin (b := .append) (xs := #[.tmp 48, .tmp 51]) rfl ?_); at_builtin; refine Kd.R_append Kd.bool (w0 := w) w.heap.size rfl (.tmp 48) (.tmp 51) 26 4 _ 1 rfl Tryd.underlying26 infB rfl (by decide) (by decide) u7 (Sv.oks (l.take j)) true [.bool true] (fun _ => True) (fun k => False) ?aV ?aX ?aP ?aK (fun _ _ => trivial) ?aO ?aB ?aS ?aL ?_; (case aV => exact rfl); (case aX => exact rfl); (case aP => exact rfl); (case aK => exact fun k hk => absurd hk id); (case aO => exact HR7a.out); (case aB => exact HB10.out); (case aS => exact HB10.out.size); (case aL => (rw [Sv.oks_len, List.length_take]; omega)); intro v11 w11 ho hb hg hat; have hn7 : u7.ownBlock ≠ some w.heap.size := fun e => Kd.R_ne HR7a.out HIa.out (by decide) e.symm; have HR6b := Lib.hid (Sv.R_keep2 HO10.out rfl hg HS67a.out.symm); have HRvb := Lib.hid (Sv.R_keep2 HRva.out rfl hg HS7v.out); have HIb := Lib.hid ((hg.block w.heap.size (xb_lt HIa.out) (fun e => hn7 e.symm)).trans HIa.out); have HS67b := Lib.hid (Sv.Sep.symm (Sv.Sep.new HS67a.out.symm hat (Kd.R_lt HO10.out))); have HS7vb := Lib.hid (Sv.Sep.new HS7v.out hat (Kd.R_lt HRva.out)); have HO11 := Lib.hid ho; have HB11 := Lib.hid hb; clear ho hb hg hat hn7))
          go_roundw
          case measure => simp [intOf]; omega
          case rel =>
            have hN : Sv.st (l.take (j + 1)) = (all, at_) := by
              rw [HP.out, Sv.st_snoc, HSt.out]
              rfl
            have hT : Sv.tel (Sv.st (l.take j)) (1, pr, ad, po) = some (yp, ya, yn) := by
              rw [HSt.out]
              show all[at_]? = some (yp, ya, yn)
              exact HY.out
            refine ⟨j + 1, at_, all, (.slice A m c), by go_num, by omega, Lib.hid hN, HIb, Lib.hid ?_, Lib.hid ?_, HRvb, HS67b, HS6va, HS7vb, HB11⟩
            · rw [HP.out, Sv.gots_snoc, hT]; exact HR6b.out
            · rw [HP.out, Sv.oks_snoc, hT]; exact HO11.out
        · have HY : Hid (all[at_]? = none) := Lib.hid (List.getElem?_eq_none (by have := HMl.out; omega))
          go_wp2_with (first
            | (go_at_call 19; (refine (getActive_ok false all A m c at_ at_ w.heap.size w.heap.size _ rfl HI1.out HC1.out HMl.out (Nat.le_refl _) (by omega) HNA.out).mono ?_); rintro e w4 ⟨ptr, rfl, hi4, hb4, hf4, hp4⟩; rw [HY.out] at hp4; (have hp4' : ptr = none := hp4); subst hp4'; have HR6w : Hid (Sv.srvKd.R 30 (w4.alloc (.cells #[.string ⟨#[]⟩, .string ⟨#[]⟩, .int .i64 0] 30)) w.heap.size (fun _ => True) u6 (Sv.gots (l.take j))) := Lib.hid (Kd.R_alloc (hf4.R rfl HR61.out HNE6.out (Sv.Sep.nil _)) (.cells #[.string ⟨#[]⟩, .string ⟨#[]⟩, .int .i64 0] 30)); have HR7w : Hid (Kd.bool.R 4 (w4.alloc (.cells #[.string ⟨#[]⟩, .string ⟨#[]⟩, .int .i64 0] 30)) w.heap.size (fun _ => True) u7 (Sv.oks (l.take j))) := Lib.hid (Kd.R_alloc (hf4.R rfl HR71.out HNE7.out (Sv.Sep.nil _)) (.cells #[.string ⟨#[]⟩, .string ⟨#[]⟩, .int .i64 0] 30)); have HRvw := Lib.hid (Kd.R_alloc (hf4.R rfl HRv1.out HNEv.out (Sv.Sep.nil _)) (.cells #[.string ⟨#[]⟩, .string ⟨#[]⟩, .int .i64 0] 30)); have HIw := Lib.hid (xb_alloc (o' := (.cells #[.string ⟨#[]⟩, .string ⟨#[]⟩, .int .i64 0] 30)) (hi4)); have HBw : Hid (Below w.heap.size w (w4.alloc (.cells #[.string ⟨#[]⟩, .string ⟨#[]⟩, .int .i64 0] 30))) := Lib.hid (below_alloc (HB1.out.trans (hb4)) (.cells #[.string ⟨#[]⟩, .string ⟨#[]⟩, .int .i64 0] 30)); clear hi4 hb4 hf4 hp4)
            | ((with_reducible refine gate_builtin (b := .append) (xs := #[.tmp 44, .tmp 46]) rfl ?_); at_builtin; refine Kd.R_append Sv.srvKd (w0 := w) w.heap.size rfl (.tmp 44) (.tmp 46) 25 30 _ 40 rfl Tryd.underlying25 infS rfl (by decide) (by decide) u6 (Sv.gots (l.take j)) (⟨#[]⟩, ⟨#[]⟩, 0) [.string ⟨#[]⟩, .string ⟨#[]⟩, .int .i64 0] (fun _ => True) (fun k => False) ?aV ?aX ?aP ?aK (fun _ _ => trivial) ?aO ?aB ?aS ?aL ?_; (case aV => exact rfl); (case aX => first | exact rfl | (simp only [World.size_alloc, World.size_setCell]; exact rfl)); (case aP => exact Sv.srv_make _ _ _ _ _ _); (case aK => exact fun k hk => absurd hk id); (case aO => exact HR6w.out); (case aB => exact HBw.out); (case aS => exact HBw.out.size); (case aL => (rw [Sv.gots_len, List.length_take]; omega)); intro v10 w10 ho hb hg hat; have hn6 : u6.ownBlock ≠ some w.heap.size := fun e => Kd.R_ne HR6w.out HIw.out (by decide) e.symm; have HR7a := Lib.hid (Sv.R_keep2 HR7w.out rfl hg HS67.out); have HRva := Lib.hid (Sv.R_keep2 HRvw.out rfl hg HS6v.out); have HIa := Lib.hid ((hg.block w.heap.size (xb_lt HIw.out) (fun e => hn6 e.symm)).trans HIw.out); have HS67a := Lib.hid (Sv.Sep.new HS67.out hat (Kd.R_lt HR7w.out)); have HS6va := Lib.hid (Sv.Sep.new HS6v.out hat (Kd.R_lt HRvw.out)); have HO10 := Lib.hid ho; have HB10 := Lib.hid hb; clear ho hb hg hat hn6)
            | ((with_reducible refine gate_builtin (b := .append) (xs := #[.tmp 48, .tmp 51]) rfl ?_); at_builtin; refine Kd.R_append Kd.bool (w0 := w) w.heap.size rfl (.tmp 48) (.tmp 51) 26 4 _ 1 rfl Tryd.underlying26 infB rfl (by decide) (by decide) u7 (Sv.oks (l.take j)) false [.bool false] (fun _ => True) (fun k => False) ?aV ?aX ?aP ?aK (fun _ _ => trivial) ?aO ?aB ?aS ?aL ?_; (case aV => exact rfl); (case aX => exact rfl); (case aP => exact rfl); (case aK => exact fun k hk => absurd hk id); (case aO => exact HR7a.out); (case aB => exact HB10.out); (case aS => exact HB10.out.size); (case aL => (rw [Sv.oks_len, List.length_take]; omega)); intro v11 w11 ho hb hg hat; have hn7 : u7.ownBlock ≠ some w.heap.size := fun e => Kd.R_ne HR7a.out HIa.out (by decide) e.symm; have HR6b := Lib.hid (Sv.R_keep2 HO10.out rfl hg HS67a.out.symm); have HRvb := Lib.hid (Sv.R_keep2 HRva.out rfl hg HS7v.out); have HIb := Lib.hid ((hg.block w.heap.size (xb_lt HIa.out) (fun e => hn7 e.symm)).trans HIa.out); have HS67b := Lib.hid (Sv.Sep.symm (Sv.Sep.new HS67a.out.symm hat (Kd.R_lt HO10.out))); have HS7vb := Lib.hid (Sv.Sep.new HS7v.out hat (Kd.R_lt HRva.out)); have HO11 := Lib.hid ho; have HB11 := Lib.hid hb; clear ho hb hg hat hn7))
          go_roundw
          case measure => simp [intOf]; omega
          case rel =>
            have hN : Sv.st (l.take (j + 1)) = (all, at_) := by
              rw [HP.out, Sv.st_snoc, HSt.out]
              rfl
            have hT : Sv.tel (Sv.st (l.take j)) (1, pr, ad, po) = none := by
              rw [HSt.out]
              show all[at_]? = none
              exact HY.out
            refine ⟨j + 1, at_, all, (.slice A m c), by go_num, by omega, Lib.hid hN, HIb, Lib.hid ?_, Lib.hid ?_, HRvb, HS67b, HS6va, HS7vb, HB11⟩
            · rw [HP.out, Sv.gots_snoc, hT]; exact HR6b.out
            · rw [HP.out, Sv.oks_snoc, hT]; exact HO11.out
      by_cases k2 : kd = 2
      · subst k2
        have HW1 : Hid (Below wr.heap.size wr (wr.alloc (.cells #[.int .i64 2, .string pr, .string ad, .int .i64 po] 32))) := Lib.hid (below_alloc (Below.refl _ _) _)
        have HI1 := Lib.hid (blk_bl HIr.out HW1.out (xb_lt HIr.out))
        have HR61 := Lib.hid (Kd.R_below HR6.out HW1.out)
        have HR71 := Lib.hid (Kd.R_below HR7.out HW1.out)
        have HRv1 := Lib.hid (Kd.R_below HRv.out HW1.out)
        have HB1 : Hid (Below w.heap.size w (wr.alloc (.cells #[.int .i64 2, .string pr, .string ad, .int .i64 po] 32))) := Lib.hid (HB.out.trans (HW1.out.mono HB.out.size))
        have HC1 : Hid (Sv.srvKd.C (wr.alloc (.cells #[.int .i64 2, .string pr, .string ad, .int .i64 po] 32)) A all.length all) := Lib.hid (Kd.C_below HC7.out HW1.out)
        by_cases hin : (at_ + 1) < m
        · obtain ⟨y, hy⟩ : ∃ y, all[(at_ + 1)]? = some y := ⟨_, List.getElem?_eq_getElem (by have := HMl.out; omega)⟩
          obtain ⟨yp, ya, yn⟩ := y
          have HY := Lib.hid hy
          clear hy
          go_wp2_with (first
            | (go_at_call 19; (refine (getActive_ok true all A m c at_ (at_ + 1) w.heap.size w.heap.size _ rfl HI1.out HC1.out HMl.out (Nat.le_refl _) (by omega) HNA.out).mono ?_); rintro e w4 ⟨ptr, rfl, hi4, hb4, hf4, hp4⟩; rw [HY.out] at hp4; obtain ⟨g4, o4, rfl, y0, y1, y2⟩ := hp4; have y0z := cell_alloc (.cells #[.string ⟨#[]⟩, .string ⟨#[]⟩, .int .i64 0] 30) y0; have y1z := cell_alloc (.cells #[.string ⟨#[]⟩, .string ⟨#[]⟩, .int .i64 0] 30) y1; have y2z := cell_alloc (.cells #[.string ⟨#[]⟩, .string ⟨#[]⟩, .int .i64 0] 30) y2; have HR64 := Lib.hid (hf4.R rfl HR61.out HNE6.out (Sv.Sep.nil _)); have HR74 := Lib.hid (hf4.R rfl HR71.out HNE7.out (Sv.Sep.nil _)); have HRv4 := Lib.hid (hf4.R rfl HRv1.out HNEv.out (Sv.Sep.nil _)); have HI4 := Lib.hid hi4; have HB4 := Lib.hid (HB1.out.trans hb4); clear hi4 hb4 hf4)
            | (go_at_call 21; (with_reducible refine (plainServer_ok _ _ _ _).mono ?_); rintro e w6 ⟨rfl, hb6⟩; have hq : w6.heap[w4.heap.size]? = some (.cells #[.string ⟨#[]⟩, .string ⟨#[]⟩, .int .i64 0] 30 (0, 0)) := blk_bl (xb_new w4 (.cells #[.string ⟨#[]⟩, .string ⟨#[]⟩, .int .i64 0] 30)) hb6 (by rw [World.size_alloc]; exact Nat.lt_succ_self _); have z0 := xb_cell hq 0; have z1 := xb_cell hq 1; have z2 := xb_cell hq 2; have f0 := blk_free hq 0; have f1 := blk_free hq 1; have f2 := blk_free hq 2; have HWs : Hid (Below w4.heap.size w4 (((w6.setCell ⟨w4.heap.size, 0, none⟩ (.string yp)).setCell ⟨w4.heap.size, 1, none⟩ (.string ya)).setCell ⟨w4.heap.size, 2, none⟩ (.int .i64 yn))) := Lib.hid ((((((below_alloc (Below.refl _ _) _).trans (hb6.mono (by rw [World.size_alloc]; omega))).setCell (Nat.le_refl _) _).setCell (Nat.le_refl _) _).setCell (Nat.le_refl _) _)); clear hq hb6; have HR6w : Hid (Sv.srvKd.R 30 ((((w6.setCell ⟨w4.heap.size, 0, none⟩ (.string yp)).setCell ⟨w4.heap.size, 1, none⟩ (.string ya)).setCell ⟨w4.heap.size, 2, none⟩ (.int .i64 yn))) w.heap.size (fun _ => True) u6 (Sv.gots (l.take j))) := Lib.hid (Kd.R_below HR64.out HWs.out); have HR7w : Hid (Kd.bool.R 4 ((((w6.setCell ⟨w4.heap.size, 0, none⟩ (.string yp)).setCell ⟨w4.heap.size, 1, none⟩ (.string ya)).setCell ⟨w4.heap.size, 2, none⟩ (.int .i64 yn))) w.heap.size (fun _ => True) u7 (Sv.oks (l.take j))) := Lib.hid (Kd.R_below HR74.out HWs.out); have HRvw := Lib.hid (Kd.R_below HRv4.out HWs.out); have HIw := Lib.hid (blk_bl HI4.out HWs.out (xb_lt HI4.out)); have HBw : Hid (Below w.heap.size w ((((w6.setCell ⟨w4.heap.size, 0, none⟩ (.string yp)).setCell ⟨w4.heap.size, 1, none⟩ (.string ya)).setCell ⟨w4.heap.size, 2, none⟩ (.int .i64 yn)))) := Lib.hid (HB4.out.trans (HWs.out.mono HB4.out.size)))
            | ((with_reducible refine gate_builtin (b := .append) (xs := #[.tmp 44, .tmp 46]) rfl ?_); at_builtin; refine Kd.R_append Sv.srvKd (w0 := w) w.heap.size rfl (.tmp 44) (.tmp 46) 25 30 _ 40 rfl Tryd.underlying25 infS rfl (by decide) (by decide) u6 (Sv.gots (l.take j)) (yp, ya, yn) [.string yp, .string ya, .int .i64 yn] (fun _ => True) (fun k => False) ?aV ?aX ?aP ?aK (fun _ _ => trivial) ?aO ?aB ?aS ?aL ?_; (case aV => exact rfl); (case aX => first | exact rfl | (simp only [World.size_alloc, World.size_setCell]; exact rfl)); (case aP => exact Sv.srv_make _ _ _ _ _ _); (case aK => exact fun k hk => absurd hk id); (case aO => exact HR6w.out); (case aB => exact HBw.out); (case aS => exact HBw.out.size); (case aL => (rw [Sv.gots_len, List.length_take]; omega)); intro v10 w10 ho hb hg hat; have hn6 : u6.ownBlock ≠ some w.heap.size := fun e => Kd.R_ne HR6w.out HIw.out (by decide) e.symm; have HR7a := Lib.hid (Sv.R_keep2 HR7w.out rfl hg HS67.out); have HRva := Lib.hid (Sv.R_keep2 HRvw.out rfl hg HS6v.out); have HIa := Lib.hid ((hg.block w.heap.size (xb_lt HIw.out) (fun e => hn6 e.symm)).trans HIw.out); have HS67a := Lib.hid (Sv.Sep.new HS67.out hat (Kd.R_lt HR7w.out)); have HS6va := Lib.hid (Sv.Sep.new HS6v.out hat (Kd.R_lt HRvw.out)); have HO10 := Lib.hid ho; have HB10 := Lib.hid hb; clear ho hb hg hat hn6)
            | ((with_reducible refine gate_builtin (b := .append) (xs := #[.tmp 48, .tmp 51]) rfl ?_); at_builtin; refine Kd.R_append Kd.bool (w0 := w) w.heap.size rfl (.tmp 48) (.tmp 51) 26 4 _ 1 rfl Tryd.underlying26 infB rfl (by decide) (by decide) u7 (Sv.oks (l.take j)) true [.bool true] (fun _ => True) (fun k => False) ?aV ?aX ?aP ?aK (fun _ _ => trivial) ?aO ?aB ?aS ?aL ?_; (case aV => exact rfl); (case aX => exact rfl); (case aP => exact rfl); (case aK => exact fun k hk => absurd hk id); (case aO => exact HR7a.out); (case aB => exact HB10.out); (case aS => exact HB10.out.size); (case aL => (rw [Sv.oks_len, List.length_take]; omega)); intro v11 w11 ho hb hg hat; have hn7 : u7.ownBlock ≠ some w.heap.size := fun e => Kd.R_ne HR7a.out HIa.out (by decide) e.symm; have HR6b := Lib.hid (Sv.R_keep2 HO10.out rfl hg HS67a.out.symm); have HRvb := Lib.hid (Sv.R_keep2 HRva.out rfl hg HS7v.out); have HIb := Lib.hid ((hg.block w.heap.size (xb_lt HIa.out) (fun e => hn7 e.symm)).trans HIa.out); have HS67b := Lib.hid (Sv.Sep.symm (Sv.Sep.new HS67a.out.symm hat (Kd.R_lt HO10.out))); have HS7vb := Lib.hid (Sv.Sep.new HS7v.out hat (Kd.R_lt HRva.out)); have HO11 := Lib.hid ho; have HB11 := Lib.hid hb; clear ho hb hg hat hn7))
          go_roundw
          case measure => simp [intOf]; omega
          case rel =>
            have hN : Sv.st (l.take (j + 1)) = (all, (at_ + 1)) := by
              rw [HP.out, Sv.st_snoc, HSt.out]
              rfl
            have hT : Sv.tel (Sv.st (l.take j)) (2, pr, ad, po) = some (yp, ya, yn) := by
              rw [HSt.out]
              show all[(at_ + 1)]? = some (yp, ya, yn)
              exact HY.out
            refine ⟨j + 1, (at_ + 1), all, (.slice A m c), by go_num, by omega, Lib.hid hN, HIb, Lib.hid ?_, Lib.hid ?_, HRvb, HS67b, HS6va, HS7vb, HB11⟩
            · rw [HP.out, Sv.gots_snoc, hT]; exact HR6b.out
            · rw [HP.out, Sv.oks_snoc, hT]; exact HO11.out
        · have HY : Hid (all[(at_ + 1)]? = none) := Lib.hid (List.getElem?_eq_none (by have := HMl.out; omega))
          go_wp2_with (first
            | (go_at_call 19; (refine (getActive_ok true all A m c at_ (at_ + 1) w.heap.size w.heap.size _ rfl HI1.out HC1.out HMl.out (Nat.le_refl _) (by omega) HNA.out).mono ?_); rintro e w4 ⟨ptr, rfl, hi4, hb4, hf4, hp4⟩; rw [HY.out] at hp4; (have hp4' : ptr = none := hp4); subst hp4'; have HR6w : Hid (Sv.srvKd.R 30 (w4.alloc (.cells #[.string ⟨#[]⟩, .string ⟨#[]⟩, .int .i64 0] 30)) w.heap.size (fun _ => True) u6 (Sv.gots (l.take j))) := Lib.hid (Kd.R_alloc (hf4.R rfl HR61.out HNE6.out (Sv.Sep.nil _)) (.cells #[.string ⟨#[]⟩, .string ⟨#[]⟩, .int .i64 0] 30)); have HR7w : Hid (Kd.bool.R 4 (w4.alloc (.cells #[.string ⟨#[]⟩, .string ⟨#[]⟩, .int .i64 0] 30)) w.heap.size (fun _ => True) u7 (Sv.oks (l.take j))) := Lib.hid (Kd.R_alloc (hf4.R rfl HR71.out HNE7.out (Sv.Sep.nil _)) (.cells #[.string ⟨#[]⟩, .string ⟨#[]⟩, .int .i64 0] 30)); have HRvw := Lib.hid (Kd.R_alloc (hf4.R rfl HRv1.out HNEv.out (Sv.Sep.nil _)) (.cells #[.string ⟨#[]⟩, .string ⟨#[]⟩, .int .i64 0] 30)); have HIw := Lib.hid (xb_alloc (o' := (.cells #[.string ⟨#[]⟩, .string ⟨#[]⟩, .int .i64 0] 30)) (hi4)); have HBw : Hid (Below w.heap.size w (w4.alloc (.cells #[.string ⟨#[]⟩, .string ⟨#[]⟩, .int .i64 0] 30))) := Lib.hid (below_alloc (HB1.out.trans (hb4)) (.cells #[.string ⟨#[]⟩, .string ⟨#[]⟩, .int .i64 0] 30)); clear hi4 hb4 hf4 hp4)
            | ((with_reducible refine gate_builtin (b := .append) (xs := #[.tmp 44, .tmp 46]) rfl ?_); at_builtin; refine Kd.R_append Sv.srvKd (w0 := w) w.heap.size rfl (.tmp 44) (.tmp 46) 25 30 _ 40 rfl Tryd.underlying25 infS rfl (by decide) (by decide) u6 (Sv.gots (l.take j)) (⟨#[]⟩, ⟨#[]⟩, 0) [.string ⟨#[]⟩, .string ⟨#[]⟩, .int .i64 0] (fun _ => True) (fun k => False) ?aV ?aX ?aP ?aK (fun _ _ => trivial) ?aO ?aB ?aS ?aL ?_; (case aV => exact rfl); (case aX => first | exact rfl | (simp only [World.size_alloc, World.size_setCell]; exact rfl)); (case aP => exact Sv.srv_make _ _ _ _ _ _); (case aK => exact fun k hk => absurd hk id); (case aO => exact HR6w.out); (case aB => exact HBw.out); (case aS => exact HBw.out.size); (case aL => (rw [Sv.gots_len, List.length_take]; omega)); intro v10 w10 ho hb hg hat; have hn6 : u6.ownBlock ≠ some w.heap.size := fun e => Kd.R_ne HR6w.out HIw.out (by decide) e.symm; have HR7a := Lib.hid (Sv.R_keep2 HR7w.out rfl hg HS67.out); have HRva := Lib.hid (Sv.R_keep2 HRvw.out rfl hg HS6v.out); have HIa := Lib.hid ((hg.block w.heap.size (xb_lt HIw.out) (fun e => hn6 e.symm)).trans HIw.out); have HS67a := Lib.hid (Sv.Sep.new HS67.out hat (Kd.R_lt HR7w.out)); have HS6va := Lib.hid (Sv.Sep.new HS6v.out hat (Kd.R_lt HRvw.out)); have HO10 := Lib.hid ho; have HB10 := Lib.hid hb; clear ho hb hg hat hn6)
            | ((with_reducible refine gate_builtin (b := .append) (xs := #[.tmp 48, .tmp 51]) rfl ?_); at_builtin; refine Kd.R_append Kd.bool (w0 := w) w.heap.size rfl (.tmp 48) (.tmp 51) 26 4 _ 1 rfl Tryd.underlying26 infB rfl (by decide) (by decide) u7 (Sv.oks (l.take j)) false [.bool false] (fun _ => True) (fun k => False) ?aV ?aX ?aP ?aK (fun _ _ => trivial) ?aO ?aB ?aS ?aL ?_; (case aV => exact rfl); (case aX => exact rfl); (case aP => exact rfl); (case aK => exact fun k hk => absurd hk id); (case aO => exact HR7a.out); (case aB => exact HB10.out); (case aS => exact HB10.out.size); (case aL => (rw [Sv.oks_len, List.length_take]; omega)); intro v11 w11 ho hb hg hat; have hn7 : u7.ownBlock ≠ some w.heap.size := fun e => Kd.R_ne HR7a.out HIa.out (by decide) e.symm; have HR6b := Lib.hid (Sv.R_keep2 HO10.out rfl hg HS67a.out.symm); have HRvb := Lib.hid (Sv.R_keep2 HRva.out rfl hg HS7v.out); have HIb := Lib.hid ((hg.block w.heap.size (xb_lt HIa.out) (fun e => hn7 e.symm)).trans HIa.out); have HS67b := Lib.hid (Sv.Sep.symm (Sv.Sep.new HS67a.out.symm hat (Kd.R_lt HO10.out))); have HS7vb := Lib.hid (Sv.Sep.new HS7v.out hat (Kd.R_lt HRva.out)); have HO11 := Lib.hid ho; have HB11 := Lib.hid hb; clear ho hb hg hat hn7))
          go_roundw
          case measure => simp [intOf]; omega
          case rel =>
            have hN : Sv.st (l.take (j + 1)) = (all, (at_ + 1)) := by
              rw [HP.out, Sv.st_snoc, HSt.out]
              rfl
            have hT : Sv.tel (Sv.st (l.take j)) (2, pr, ad, po) = none := by
              rw [HSt.out]
              show all[(at_ + 1)]? = none
              exact HY.out
            refine ⟨j + 1, (at_ + 1), all, (.slice A m c), by go_num, by omega, Lib.hid hN, HIb, Lib.hid ?_, Lib.hid ?_, HRvb, HS67b, HS6va, HS7vb, HB11⟩
            · rw [HP.out, Sv.gots_snoc, hT]; exact HR6b.out
            · rw [HP.out, Sv.oks_snoc, hT]; exact HO11.out
      by_cases k3 : kd = 3
      · subst k3
        have HW1 : Hid (Below wr.heap.size wr (wr.alloc (.cells #[.int .i64 3, .string pr, .string ad, .int .i64 po] 32))) := Lib.hid (below_alloc (Below.refl _ _) _)
        have HI1 := Lib.hid (blk_bl HIr.out HW1.out (xb_lt HIr.out))
        have HR61 := Lib.hid (Kd.R_below HR6.out HW1.out)
        have HR71 := Lib.hid (Kd.R_below HR7.out HW1.out)
        have HRv1 := Lib.hid (Kd.R_below HRv.out HW1.out)
        have HB1 : Hid (Below w.heap.size w (wr.alloc (.cells #[.int .i64 3, .string pr, .string ad, .int .i64 po] 32))) := Lib.hid (HB.out.trans (HW1.out.mono HB.out.size))
        go_wp2_with (first
          | (go_at_call 20; (refine (resetIndex_ok (.slice A m c) (at_ : Int) w.heap.size w.heap.size _ HI1.out (Nat.le_refl _)).mono ?_); rintro e w4 ⟨rfl, hi4, hb4, hf4⟩; have HR6w : Hid (Sv.srvKd.R 30 (w4.alloc (.cells #[.string ⟨#[]⟩, .string ⟨#[]⟩, .int .i64 0] 30)) w.heap.size (fun _ => True) u6 (Sv.gots (l.take j))) := Lib.hid (Kd.R_alloc (hf4.R rfl HR61.out HNE6.out (Sv.Sep.nil _)) (.cells #[.string ⟨#[]⟩, .string ⟨#[]⟩, .int .i64 0] 30)); have HR7w : Hid (Kd.bool.R 4 (w4.alloc (.cells #[.string ⟨#[]⟩, .string ⟨#[]⟩, .int .i64 0] 30)) w.heap.size (fun _ => True) u7 (Sv.oks (l.take j))) := Lib.hid (Kd.R_alloc (hf4.R rfl HR71.out HNE7.out (Sv.Sep.nil _)) (.cells #[.string ⟨#[]⟩, .string ⟨#[]⟩, .int .i64 0] 30)); have HRvw := Lib.hid (Kd.R_alloc (hf4.R rfl HRv1.out HNEv.out (Sv.Sep.nil _)) (.cells #[.string ⟨#[]⟩, .string ⟨#[]⟩, .int .i64 0] 30)); have HIw := Lib.hid (xb_alloc (o' := (.cells #[.string ⟨#[]⟩, .string ⟨#[]⟩, .int .i64 0] 30)) (hi4)); have HBw : Hid (Below w.heap.size w (w4.alloc (.cells #[.string ⟨#[]⟩, .string ⟨#[]⟩, .int .i64 0] 30))) := Lib.hid (below_alloc (HB1.out.trans (hb4)) (.cells #[.string ⟨#[]⟩, .string ⟨#[]⟩, .int .i64 0] 30)); clear hi4 hb4 hf4)
          | ((with_reducible refine gate_builtin (b := .append) (xs := #[.tmp 44, .tmp 46]) rfl ?_); at_builtin; refine Kd.R_append Sv.srvKd (w0 := w) w.heap.size rfl (.tmp 44) (.tmp 46) 25 30 _ 40 rfl Tryd.underlying25 infS rfl (by decide) (by decide) u6 (Sv.gots (l.take j)) (⟨#[]⟩, ⟨#[]⟩, 0) [.string ⟨#[]⟩, .string ⟨#[]⟩, .int .i64 0] (fun _ => True) (fun k => False) ?aV ?aX ?aP ?aK (fun _ _ => trivial) ?aO ?aB ?aS ?aL ?_; (case aV => exact rfl); (case aX => first | exact rfl | (simp only [World.size_alloc, World.size_setCell]; exact rfl)); (case aP => exact Sv.srv_make _ _ _ _ _ _); (case aK => exact fun k hk => absurd hk id); (case aO => exact HR6w.out); (case aB => exact HBw.out); (case aS => exact HBw.out.size); (case aL => (rw [Sv.gots_len, List.length_take]; omega)); intro v10 w10 ho hb hg hat; have hn6 : u6.ownBlock ≠ some w.heap.size := fun e => Kd.R_ne HR6w.out HIw.out (by decide) e.symm; have HR7a := Lib.hid (Sv.R_keep2 HR7w.out rfl hg HS67.out); have HRva := Lib.hid (Sv.R_keep2 HRvw.out rfl hg HS6v.out); have HIa := Lib.hid ((hg.block w.heap.size (xb_lt HIw.out) (fun e => hn6 e.symm)).trans HIw.out); have HS67a := Lib.hid (Sv.Sep.new HS67.out hat (Kd.R_lt HR7w.out)); have HS6va := Lib.hid (Sv.Sep.new HS6v.out hat (Kd.R_lt HRvw.out)); have HO10 := Lib.hid ho; have HB10 := Lib.hid hb; clear ho hb hg hat hn6)
          | ((with_reducible refine gate_builtin (b := .append) (xs := #[.tmp 48, .tmp 51]) rfl ?_); at_builtin; refine Kd.R_append Kd.bool (w0 := w) w.heap.size rfl (.tmp 48) (.tmp 51) 26 4 _ 1 rfl Tryd.underlying26 infB rfl (by decide) (by decide) u7 (Sv.oks (l.take j)) false [.bool false] (fun _ => True) (fun k => False) ?aV ?aX ?aP ?aK (fun _ _ => trivial) ?aO ?aB ?aS ?aL ?_; (case aV => exact rfl); (case aX => exact rfl); (case aP => exact rfl); (case aK => exact fun k hk => absurd hk id); (case aO => exact HR7a.out); (case aB => exact HB10.out); (case aS => exact HB10.out.size); (case aL => (rw [Sv.oks_len, List.length_take]; omega)); intro v11 w11 ho hb hg hat; have hn7 : u7.ownBlock ≠ some w.heap.size := fun e => Kd.R_ne HR7a.out HIa.out (by decide) e.symm; have HR6b := Lib.hid (Sv.R_keep2 HO10.out rfl hg HS67a.out.symm); have HRvb := Lib.hid (Sv.R_keep2 HRva.out rfl hg HS7v.out); have HIb := Lib.hid ((hg.block w.heap.size (xb_lt HIa.out) (fun e => hn7 e.symm)).trans HIa.out); have HS67b := Lib.hid (Sv.Sep.symm (Sv.Sep.new HS67a.out.symm hat (Kd.R_lt HO10.out))); have HS7vb := Lib.hid (Sv.Sep.new HS7v.out hat (Kd.R_lt HRva.out)); have HO11 := Lib.hid ho; have HB11 := Lib.hid hb; clear ho hb hg hat hn7))
        go_roundw
        case measure => simp [intOf]; omega
        case rel =>
          have hN : Sv.st (l.take (j + 1)) = (all, 0) := by
            rw [HP.out, Sv.st_snoc, HSt.out]
            rfl
          have hT : Sv.tel (Sv.st (l.take j)) (3, pr, ad, po) = none := by
            rw [HSt.out]
            rfl
          refine ⟨j + 1, 0, all, (.slice A m c), by go_num, by omega, Lib.hid hN, HIb, Lib.hid ?_, Lib.hid ?_, HRvb, HS67b, HS6va, HS7vb, HB11⟩
          · rw [HP.out, Sv.gots_snoc, hT]; exact HR6b.out
          · rw [HP.out, Sv.oks_snoc, hT]; exact HO11.out
      have q0 : decide (kd = 0) = false := decide_eq_false k0
      have q1 : decide (kd = 1) = false := decide_eq_false k1
      have q2 : decide (kd = 2) = false := decide_eq_false k2
      have q3 : decide (kd = 3) = false := decide_eq_false k3
      have HR6w : Hid (Sv.srvKd.R 30 ((wr.alloc (.cells #[.int .i64 kd, .string pr, .string ad, .int .i64 po] 32)).alloc (.cells #[.string ⟨#[]⟩, .string ⟨#[]⟩, .int .i64 0] 30)) w.heap.size (fun _ => True) u6 (Sv.gots (l.take j))) := Lib.hid (Kd.R_below HR6.out (below_alloc (below_alloc (Below.refl wr.heap.size wr) _) _))
      have HR7w : Hid (Kd.bool.R 4 ((wr.alloc (.cells #[.int .i64 kd, .string pr, .string ad, .int .i64 po] 32)).alloc (.cells #[.string ⟨#[]⟩, .string ⟨#[]⟩, .int .i64 0] 30)) w.heap.size (fun _ => True) u7 (Sv.oks (l.take j))) := Lib.hid (Kd.R_below HR7.out (below_alloc (below_alloc (Below.refl wr.heap.size wr) _) _))
      have HRvw := Lib.hid ((Kd.R_below HRv.out (below_alloc (below_alloc (Below.refl wr.heap.size wr) _) _) : Sv.srvKd.R 49 ((wr.alloc (.cells #[.int .i64 kd, .string pr, .string ad, .int .i64 po] 32)).alloc (.cells #[.string ⟨#[]⟩, .string ⟨#[]⟩, .int .i64 0] 30)) w.heap.size (fun _ => True) (.slice A m c) all))
      have HIw := Lib.hid ((blk_bl HIr.out (below_alloc (below_alloc (Below.refl wr.heap.size wr) _) _) (xb_lt HIr.out) : ((wr.alloc (.cells #[.int .i64 kd, .string pr, .string ad, .int .i64 po] 32)).alloc (.cells #[.string ⟨#[]⟩, .string ⟨#[]⟩, .int .i64 0] 30)).heap[w.heap.size]? = _))
      have HBw : Hid (Below w.heap.size w ((wr.alloc (.cells #[.int .i64 kd, .string pr, .string ad, .int .i64 po] 32)).alloc (.cells #[.string ⟨#[]⟩, .string ⟨#[]⟩, .int .i64 0] 30))) := Lib.hid (HB.out.trans (((below_alloc (below_alloc (Below.refl wr.heap.size wr) _) _)).mono HB.out.size))
      go_wp2_with (first
        | ((with_reducible refine gate_builtin (b := .append) (xs := #[.tmp 44, .tmp 46]) rfl ?_); at_builtin; refine Kd.R_append Sv.srvKd (w0 := w) w.heap.size rfl (.tmp 44) (.tmp 46) 25 30 _ 40 rfl Tryd.underlying25 infS rfl (by decide) (by decide) u6 (Sv.gots (l.take j)) (⟨#[]⟩, ⟨#[]⟩, 0) [.string ⟨#[]⟩, .string ⟨#[]⟩, .int .i64 0] (fun _ => True) (fun k => False) ?aV ?aX ?aP ?aK (fun _ _ => trivial) ?aO ?aB ?aS ?aL ?_; (case aV => exact rfl); (case aX => first | exact rfl | (simp only [World.size_alloc, World.size_setCell]; exact rfl)); (case aP => exact Sv.srv_make _ _ _ _ _ _); (case aK => exact fun k hk => absurd hk id); (case aO => exact HR6w.out); (case aB => exact HBw.out); (case aS => exact HBw.out.size); (case aL => (rw [Sv.gots_len, List.length_take]; omega)); intro v10 w10 ho hb hg hat; have hn6 : u6.ownBlock ≠ some w.heap.size := fun e => Kd.R_ne HR6w.out HIw.out (by decide) e.symm; have HR7a := Lib.hid (Sv.R_keep2 HR7w.out rfl hg HS67.out); have HRva := Lib.hid (Sv.R_keep2 HRvw.out rfl hg HS6v.out); have HIa := Lib.hid ((hg.block w.heap.size (xb_lt HIw.out) (fun e => hn6 e.symm)).trans HIw.out); have HS67a := Lib.hid (Sv.Sep.new HS67.out hat (Kd.R_lt HR7w.out)); have HS6va := Lib.hid (Sv.Sep.new HS6v.out hat (Kd.R_lt HRvw.out)); have HO10 := Lib.hid ho; have HB10 := Lib.hid hb; clear ho hb hg hat hn6)
        | ((with_reducible refine gate_builtin (b := .append) (xs := #[.tmp 48, .tmp 51]) rfl ?_); at_builtin; refine Kd.R_append Kd.bool (w0 := w) w.heap.size rfl (.tmp 48) (.tmp 51) 26 4 _ 1 rfl Tryd.underlying26 infB rfl (by decide) (by decide) u7 (Sv.oks (l.take j)) false [.bool false] (fun _ => True) (fun k => False) ?aV ?aX ?aP ?aK (fun _ _ => trivial) ?aO ?aB ?aS ?aL ?_; (case aV => exact rfl); (case aX => exact rfl); (case aP => exact rfl); (case aK => exact fun k hk => absurd hk id); (case aO => exact HR7a.out); (case aB => exact HB10.out); (case aS => exact HB10.out.size); (case aL => (rw [Sv.oks_len, List.length_take]; omega)); intro v11 w11 ho hb hg hat; have hn7 : u7.ownBlock ≠ some w.heap.size := fun e => Kd.R_ne HR7a.out HIa.out (by decide) e.symm; have HR6b := Lib.hid (Sv.R_keep2 HO10.out rfl hg HS67a.out.symm); have HRvb := Lib.hid (Sv.R_keep2 HRva.out rfl hg HS7v.out); have HIb := Lib.hid ((hg.block w.heap.size (xb_lt HIa.out) (fun e => hn7 e.symm)).trans HIa.out); have HS67b := Lib.hid (Sv.Sep.symm (Sv.Sep.new HS67a.out.symm hat (Kd.R_lt HO10.out))); have HS7vb := Lib.hid (Sv.Sep.new HS7v.out hat (Kd.R_lt HRva.out)); have HO11 := Lib.hid ho; have HB11 := Lib.hid hb; clear ho hb hg hat hn7))
      go_roundw
      case measure => simp [intOf]; omega
      case rel =>
        have hN : Sv.st (l.take (j + 1)) = (all, at_) := by
          rw [HP.out, Sv.st_snoc, HSt.out]
          simp [Sv.nxt, k0, k2, k3]
        have hT : Sv.tel (Sv.st (l.take j)) (kd, pr, ad, po) = none := by
          rw [HSt.out]
          simp [Sv.tel, k1, k2]
        refine ⟨j + 1, at_, all, (.slice A m c), by go_num, by omega, Lib.hid hN, HIb, Lib.hid ?_, Lib.hid ?_, HRvb, HS67b, HS6va, HS7vb, HB11⟩
        · rw [HP.out, Sv.gots_snoc, hT]; exact HR6b.out
        · rw [HP.out, Sv.oks_snoc, hT]; exact HO11.out
    · have hjn : j = n := by omega
      subst hjn
      have t2 : decide ((j : Int) < (j : Int)) = false := decide_eq_false (by omega)
      have hl : l.take j = l := List.take_of_length_le (by have := HN.out; omega)
      rw [hl] at HSt HR6 HR7
      have hst := Sv.st_len l
      rw [HSt.out, ← HN.out] at hst
      simp only at hst
      obtain ⟨hst1, hst2⟩ := hst
      obtain ⟨A, c, e7, hc7, hC7⟩ := Kd.R_reads HRv.out
      have HC7 := Lib.hid hC7
      obtain ⟨m, hm⟩ : ∃ m, m = all.length := ⟨_, rfl⟩
      rw [← hm] at e7 hc7 hst1
      have HMl := Lib.hid hm
      clear hC7 hm
      subst e7
      obtain ⟨wq, hwq⟩ : ∃ wq, wq = wr := ⟨_, rfl⟩
      have c2 : wr.cell? ⟨w.heap.size, 2, none⟩ = some (.slice A m c) := xb_cell HIr.out 2
      rw [← hwq] at HR6 HR7 HC7 HB
      have HQ := Lib.hid hwq
      go_wp2
      go_loopw [12, 57] (fun v12 v57 wx => ∃ i : Nat, v57 = .int .i64 i ∧ i ≤ m ∧ Hid (Sv.srvKd.R 30 wx wq.heap.size (fun _ => True) v12 (all.take i)) ∧ Hid (Below wq.heap.size wq wx)) (fun _ v57 _ => m - (intOf v57).toNat)
      case atStart => exact ⟨0, rfl, Nat.zero_le _, Lib.hid (by rw [List.take_zero]; exact Kd.R_nil _ _ _ _ _), Lib.hid (by rw [HQ.out]; exact Below.refl _ _)⟩
      case round =>
        clear HQ hwq
        obtain ⟨i, rfl, hi, HO, HBx⟩ := hrel
        by_cases him : i < m
        · have him' : i < all.length := by rw [← HMl.out]; exact him
          have t3 : decide ((i : Int) < (m : Int)) = true := decide_eq_true (by omega)
          obtain ⟨g7, o7, rfl, y0, y1, y2⟩ := Sv.srv_at (Kd.C_below HC7.out HBx.out) i him'
          have HPa : Hid (all.take (i + 1) = all.take i ++ [all[i]]) := Lib.hid (List.take_succ_eq_append_getElem him')
          generalize all[i] = y at y0 y1 y2 HPa
          obtain ⟨yp, ya, yn⟩ := y
          simp only at y0 y1 y2
          go_wp2_with (first
            | (go_at_call 21; (with_reducible refine (plainServer_ok _ _ _ _).mono ?_); rintro e w6 ⟨rfl, hb6⟩; have HB6 : Hid (Below wr.heap.size wr w6) := Lib.hid ((below_alloc (Below.refl _ _) _).trans (hb6.mono (by rw [World.size_alloc]; omega))); clear hb6)
            | ((with_reducible refine gate_builtin (b := .append) (xs := #[.tmp 61, .tmp 64]) rfl ?_); at_builtin; refine Kd.R_append Sv.srvKd (w0 := wq) wq.heap.size rfl (.tmp 61) (.tmp 64) 25 30 _ 40 rfl Tryd.underlying25 infS rfl (by decide) (by decide) u12 (all.take i) (yp, ya, yn) [.string yp, .string ya, .int .i64 yn] (fun _ => True) (fun k => False) ?aV ?aX ?aP ?aK (fun _ _ => trivial) ?aO ?aB ?aS ?aL ?_; (case aV => exact rfl); (case aX => exact rfl); (case aP => exact Sv.srv_make _ _ _ _ _ _); (case aK => exact fun k hk => absurd hk id); (case aO => exact Kd.R_below HO.out HB6.out); (case aB => exact HBx.out.trans (HB6.out.mono HBx.out.size)); (case aS => exact (HBx.out.trans (HB6.out.mono HBx.out.size)).size); (case aL => (rw [List.length_take]; omega)); intro v10 w10 ho hb hg hat; have HO10 := Lib.hid ho; have HB10 := Lib.hid hb; clear ho hb hg hat))
          go_roundw
          case measure => simp [intOf]; omega
          case rel => exact ⟨i + 1, by go_num, by omega, Lib.hid (by rw [HPa.out]; exact HO10.out), HB10⟩
        · have t3 : decide ((i : Int) < (m : Int)) = false := decide_eq_false (by omega)
          have hal : all.take i = all := List.take_of_length_le (by have := HMl.out; omega)
          rw [hal] at HO
          have HE : Hid ((Sv.srvKd.R 30 wr w.heap.size (fun _ => True) u6 (Sv.gots l)) ∧ (Kd.bool.R 4 wr w.heap.size (fun _ => True) u7 (Sv.oks l)) ∧ (Sv.srvKd.R 30 wr w.heap.size (fun _ => True) u12 (Sv.st l).1)) := Lib.hid ⟨Kd.R_below HR6.out HBx.out, Kd.R_below HR7.out HBx.out, by rw [HSt.out]; exact Kd.R_lower HO.out HB.out.size⟩
          go_wp2
          refine bodyPost_ret (v := .tuple #[u6, u7, u12]) (by simp [results, Tryd.results9, go_sem]) rfl ?_
          exact ⟨⟨_, _, _, rfl, HE.out⟩, HB.out.trans (HBx.out.mono HB.out.size)⟩
end Go.Proofs.YtgjjmhhdncmigaaDoor.X
