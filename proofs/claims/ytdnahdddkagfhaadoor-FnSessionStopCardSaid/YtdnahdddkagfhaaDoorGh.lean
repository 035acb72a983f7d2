/- impl.got of bytes, of a DLC, of a fixed CLR, over any contract of the reader. -/
import Derived.Test.YtdnahdddkagfhaaDoorTz
namespace Go.Proofs.YtdnahdddkagfhaaDoor.X
open Go.RowKit Go.Proofs.YtdnahdddkagfhaaDoorW.PrintWords Go.Proofs.YtdnahdddkagfhaaDoorW.PrintMore
attribute [local go_sem] setCell_drewN alloc_drewN
set_option linter.unusedVariables false
set_option linter.unusedSimpArgs false
set_option maxHeartbeats 8000000 in
set_option maxRecDepth 100000 in
/-- Bytes. -/
theorem got_bytes (w : World) (b g c : Nat) (l : List Int) (idx idx' : Nat) (big : Bool) (chunk size : Int) (sb sc : Bool) (d1 : List Int) (h : Ses.RS w b g c l idx big chunk) (hsz : 0 ≤ size) (hd : d1.length ≤ 1000000)
    (hf : ∀ W, Ses.RS W b g c l idx big chunk → w.heap.size ≤ W.heap.size → Calls Tryd.prog 69 #[.pointer (some ⟨b, 0, none⟩), .int .i64 size] W (Ses.RdP b g c l idx' big chunk d1 w.heap.size W)) :
    Calls Tryd.prog 48 #[.pointer (some ⟨b, 0, none⟩), .agg #[.int .i64 1, .int .i64 size, .bool sb, .bool sc]] w (Ses.GotP b g c l idx' big chunk d1 [] 0 w) := by
  have hb := xb_lt h.blk
  have hg0 := h.lt
  obtain ⟨d2, hd2⟩ : ∃ d2 : List Int, d2 = [] := ⟨_, rfl⟩
  rw [← hd2]
  have hl2 : d2.length ≤ 1000000 := by rw [hd2]; simp
  have HR := Lib.hid hf
  have HH := Lib.hid (h.bl (Ses.W3_bl w 1 size sb sc))
  have hz3 := Ses.W3_size w 1 size sb sc
  obtain ⟨n1, hn1'⟩ : ∃ n1, n1 = d1.length := ⟨_, rfl⟩
  have HN1 := Lib.hid hn1'
  have HD2 := Lib.hid hd2
  have HLd := Lib.hid (And.intro hd hl2)
  have tneg : decide (size < 0) = false := decide_eq_false (by omega)
  unfold Ses.W3 at HH hz3
  clear h hf hn1' hd2 hd hl2 hsz
  go_enter Tryd.func48, Tryd.ntmps48
  go_wp2_with (first | (go_at_call 69; (with_reducible refine (HR.out _ ?hrs ?hsz).mono ?_); (case hrs => exact HH.out); (case hsz => omega); rintro e w1 ⟨A1, c1, rfl, hC, hab, hrs, hg, -⟩; (rw [← HN1.out]); have HRS := Lib.hid hrs; have HG := Lib.hid (Ses.W3_grown (kind := 1) (size := size) (big := sb) (comp := sc) hb hg); have HCl := Lib.hid hC; have HAb := Lib.hid hab; have hk3 := Ses.G3_of (kind := 1) (size := size) (big := sb) (comp := sc) hb hg; have x0 := xb_cell hk3.k0 0; have x1 := xb_cell hk3.k0 1; have x2 := xb_cell hk3.k0 2; have x3 := xb_cell hk3.k0 3; have y0 := xb_cell hk3.k2 0; have z0 := xb_cell hk3.k1 0; have fy0 := blk_free hk3.k2 0; have fz0 := blk_free hk3.k1 0; have y1 := xb_cell hk3.k2 1; have z1 := xb_cell hk3.k1 1; have fy1 := blk_free hk3.k2 1; have fz1 := blk_free hk3.k1 1; have y2 := xb_cell hk3.k2 2; have z2 := xb_cell hk3.k1 2; have fy2 := blk_free hk3.k2 2; have fz2 := blk_free hk3.k1 2; have y3 := xb_cell hk3.k2 3; have z3 := xb_cell hk3.k1 3; have fy3 := blk_free hk3.k2 3; have fz3 := blk_free hk3.k1 3; have y4 := xb_cell hk3.k2 4; have z4 := xb_cell hk3.k1 4; have fy4 := blk_free hk3.k2 4; have fz4 := blk_free hk3.k1 4; simp only [List.getElem?_toArray, List.getElem?_cons_zero, List.getElem?_cons_succ] at y0 z0 y1 z1 y2 z2 y3 z3 y4 z4; have K0 := Lib.hid hk3; simp only [List.getElem?_toArray, List.getElem?_cons_zero, List.getElem?_cons_succ] at x0 x1 x2 x3; clear hrs hg hk3 hC hab))
  have hab1 : ∀ a, A1 = some a → a.block ≠ w.heap.size + 1 + 1 := fun a ha => by
    have := HAb.out a ha
    rw [hz3] at this
    omega
  have hX1 : Hid (((w1.setCell ⟨w.heap.size + 1 + 1, 1, none⟩ (.slice A1 n1 c1)).setCell ⟨w.heap.size + 1 + 1, 0, none⟩ (.bool true)).heap[w.heap.size + 1]? = some (.cells #[.bool false, .slice none 0 0, .slice none 0 0, .int .i64 0, .string ⟨#[]⟩] 38 (0, 0))) := Lib.hid ((blk_set_other (by omega)).trans ((blk_set_other (by omega)).trans K0.out.k1))
  have hX2 : Hid (((w1.setCell ⟨w.heap.size + 1 + 1, 1, none⟩ (.slice A1 n1 c1)).setCell ⟨w.heap.size + 1 + 1, 0, none⟩ (.bool true)).heap[w.heap.size + 1 + 1]? = some (.cells #[.bool true, .slice A1 n1 c1, .slice none 0 0, .int .i64 0, .string ⟨#[]⟩] 38 (0, 0))) := Lib.hid ((xb_set (xb_set K0.out.k2 1 _) 0 _).trans (by simp))
  have hXr : Hid (Ses.RS ((w1.setCell ⟨w.heap.size + 1 + 1, 1, none⟩ (.slice A1 n1 c1)).setCell ⟨w.heap.size + 1 + 1, 0, none⟩ (.bool true)) b g c l idx' big chunk) := Lib.hid ((HRS.out.far _ (by omega) (by omega)).far _ (by omega) (by omega))
  have hXg : Hid (w.grownBy ((w1.setCell ⟨w.heap.size + 1 + 1, 1, none⟩ (.slice A1 n1 c1)).setCell ⟨w.heap.size + 1 + 1, 0, none⟩ (.bool true)) (some b)) := Lib.hid (grown_far (grown_far HG.out _ (by omega)) _ (by omega))
  have hXc : Hid (Kd.C (Kd.int .u8) ((w1.setCell ⟨w.heap.size + 1 + 1, 1, none⟩ (.slice A1 n1 c1)).setCell ⟨w.heap.size + 1 + 1, 0, none⟩ (.bool true)) A1 d1.length d1) := Lib.hid (C_far (C_far HCl.out hab1) hab1)
  clear y0 z0 fy0 fz0 y1 z1 fy1 fz1 y2 z2 fy2 fz2 y3 z3 fy3 fz3 y4 z4 fy4 fz4 x0 x1 x2 x3 hab1
  generalize ((w1.setCell ⟨w.heap.size + 1 + 1, 1, none⟩ (.slice A1 n1 c1)).setCell ⟨w.heap.size + 1 + 1, 0, none⟩ (.bool true)) = w2 at *
  have hn1 := xb_lt hX1.out
  have hn2 := xb_lt hX2.out
  have K1 := hX1
  have K2 := hX2
  have y0 := xb_cell K2.out 0; have z0 := xb_cell K1.out 0; have fy0 := blk_free K2.out 0; have fz0 := blk_free K1.out 0; have y1 := xb_cell K2.out 1; have z1 := xb_cell K1.out 1; have fy1 := blk_free K2.out 1; have fz1 := blk_free K1.out 1; have y2 := xb_cell K2.out 2; have z2 := xb_cell K1.out 2; have fy2 := blk_free K2.out 2; have fz2 := blk_free K1.out 2; have y3 := xb_cell K2.out 3; have z3 := xb_cell K1.out 3; have fy3 := blk_free K2.out 3; have fz3 := blk_free K1.out 3; have y4 := xb_cell K2.out 4; have z4 := xb_cell K1.out 4; have fy4 := blk_free K2.out 4; have fz4 := blk_free K1.out 4; simp only [List.getElem?_toArray, List.getElem?_cons_zero, List.getElem?_cons_succ] at y0 z0 y1 z1 y2 z2 y3 z3 y4 z4
  have HC1 : Hid (∀ W : World, Below w2.heap.size w2 W → Calls Tryd.prog 17 #[.slice A1 n1 c1] W fun e w' => ∃ v, e = .returned v ∧ Kd.R (Kd.int .u8) 5 w' W.heap.size (fun _ => True) v d1 ∧ Below W.heap.size W w') := Lib.hid (fun W hW => by
    have h := clone_any A1 c1 d1 W (Kd.C_below hXc.out hW) (by have := HLd.out.1; omega)
    rw [← HN1.out] at h
    exact h)
  have HC2 : Hid (∀ W : World, Below w2.heap.size w2 W → Calls Tryd.prog 17 #[.slice none 0 0] W fun e w' => ∃ v, e = .returned v ∧ Kd.R (Kd.int .u8) 5 w' W.heap.size (fun _ => True) v d2 ∧ Below W.heap.size W w') := Lib.hid (fun W hW => by
    have h := clone_any none 0 [] W (C_empty _ _ _) (by simp)
    rw [HD2.out]
    exact h)
  refine wp_region_noPanic ?_
  refine wp_region_held_drew (S := fun _ => True) (by kernel_rfl) trivial (fun hHeld => ?_)
  refine wpAnyH_take (i := 0) (v := ?_) rfl (by kernel_rfl) (by kernel_rfl) (by kernel_rfl) (fun _ _ _ h => h) (Or.inl ⟨by rfl, ?_⟩) (by assumption) ?_
  rotate_left
  · intro w hSw
    go_simp
    try (with_reducible rfl)
  try simp only [Act.put, List.setIfInBounds_toArray, List.set_cons_zero, List.set_cons_succ]
  refine wpAnyH_take (i := 3) (v := ?_) rfl (by kernel_rfl) (by kernel_rfl) (by kernel_rfl) (fun _ _ _ h => h) (Or.inl ⟨by rfl, ?_⟩) (by assumption) ?_
  rotate_left
  · intro w hSw
    go_simp
    try (with_reducible rfl)
  try simp only [Act.put, List.setIfInBounds_toArray, List.set_cons_zero, List.set_cons_succ]
  refine wpAnyH_ready (rs := [1, 4]) (by kernel_rfl) (by simp) ?_
  refine AllReadyH.cons (o := _) rfl (fun K hK => ?_) ?_
  · go_simp
    refine hK.out _ _ trivial (fun hHeld => ?_)
    clear hK K
    try simp only [Act.put, List.setIfInBounds_toArray, List.set_cons_zero, List.set_cons_succ]
    refine wpAnyH_ready (rs := [2, 4]) (by kernel_rfl) (by simp) ?_
    refine AllReadyH.cons (o := _) rfl (fun K hK => ?_) ?_
    · go_simp
      go_at_call 17
      refine (HC1.out _ ?hb).mono ?_
      case hb => exact below_drew (Below.refl _ _)
      rintro e w5 ⟨v5, rfl, hR5, hb⟩
      obtain ⟨A5, c5, rfl, -, -, hab5, -⟩ := Ses.R_slots hR5
      have HR5 := Lib.hid hR5; have HA5 := Lib.hid hab5; have HB5 := Lib.hid ((below_drew (Below.refl w2.heap.size w2)).trans hb)
      have h1 := (HB5.out.block _ hn1).trans K1.out; have h2 := (HB5.out.block _ hn2).trans K2.out
      clear y0 z0 fy0 fz0 y1 z1 fy1 fz1 y2 z2 fy2 fz2 y3 z3 fy3 fz3 y4 z4 fy4 fz4
      have y0 := xb_cell h2 0; have z0 := xb_cell h1 0; have fy0 := blk_free h2 0; have fz0 := blk_free h1 0; have y1 := xb_cell h2 1; have z1 := xb_cell h1 1; have fy1 := blk_free h2 1; have fz1 := blk_free h1 1; have y2 := xb_cell h2 2; have z2 := xb_cell h1 2; have fy2 := blk_free h2 2; have fz2 := blk_free h1 2; have y3 := xb_cell h2 3; have z3 := xb_cell h1 3; have fy3 := blk_free h2 3; have fz3 := blk_free h1 3; have y4 := xb_cell h2 4; have z4 := xb_cell h1 4; have fy4 := blk_free h2 4; have fz4 := blk_free h1 4; simp only [List.getElem?_toArray, List.getElem?_cons_zero, List.getElem?_cons_succ] at y0 z0 y1 z1 y2 z2 y3 z3 y4 z4
      have H1 := Lib.hid h1; have H2 := Lib.hid h2
      clear hR5 hab5 hb h1 h2
      rw [← HN1.out]
      go_wp2
      refine hK.out _ _ trivial (fun hHeld => ?_)
      clear hK K
      try simp only [Act.put, List.setIfInBounds_toArray, List.set_cons_zero, List.set_cons_succ]
      refine wpAnyH_ready (rs := [4]) (by kernel_rfl) (by simp) ?_
      refine AllReadyH.cons (o := _) rfl (fun K hK => ?_) ?_
      · go_simp
        refine hK.out _ _ trivial (fun hHeld => ?_)
        clear hK K
        try simp only [Act.put, List.setIfInBounds_toArray, List.set_cons_zero, List.set_cons_succ]
        refine wpAnyH_take (i := 6) (v := ?_) rfl (by kernel_rfl) (by kernel_rfl) (by kernel_rfl) (fun _ _ _ h => h) (Or.inl ⟨by rfl, ?_⟩) (by assumption) ?_
        rotate_left
        · intro w hSw
          go_simp
          try (with_reducible rfl)
        try simp only [Act.put, List.setIfInBounds_toArray, List.set_cons_zero, List.set_cons_succ]
        refine wpAnyH_ready (rs := [5]) (by kernel_rfl) (by simp) ?_
        refine AllReadyH.cons (o := _) rfl (fun K hK => ?_) ?_
        · go_simp
          go_at_call 17
          refine (HC2.out _ ?hb).mono ?_
          case hb => exact HB5.out
          rintro e w6 ⟨v6, rfl, hR6, hb⟩
          obtain ⟨A6, c6, rfl, -, -, hab6, -⟩ := Ses.R_slots hR6
          have HR6 := Lib.hid hR6; have HA6 := Lib.hid hab6; have HB6 := Lib.hid hb
          have h1 := (hb.block _ (xb_lt H1.out)).trans H1.out; have h2 := (hb.block _ (xb_lt H2.out)).trans H2.out
          clear y0 z0 fy0 fz0 y1 z1 fy1 fz1 y2 z2 fy2 fz2 y3 z3 fy3 fz3 y4 z4 fy4 fz4
          have y0 := xb_cell h2 0; have z0 := xb_cell h1 0; have fy0 := blk_free h2 0; have fz0 := blk_free h1 0; have y1 := xb_cell h2 1; have z1 := xb_cell h1 1; have fy1 := blk_free h2 1; have fz1 := blk_free h1 1; have y2 := xb_cell h2 2; have z2 := xb_cell h1 2; have fy2 := blk_free h2 2; have fz2 := blk_free h1 2; have y3 := xb_cell h2 3; have z3 := xb_cell h1 3; have fy3 := blk_free h2 3; have fz3 := blk_free h1 3; have y4 := xb_cell h2 4; have z4 := xb_cell h1 4; have fy4 := blk_free h2 4; have fz4 := blk_free h1 4; simp only [List.getElem?_toArray, List.getElem?_cons_zero, List.getElem?_cons_succ] at y0 z0 y1 z1 y2 z2 y3 z3 y4 z4
          have L1 := Lib.hid h1; have L2 := Lib.hid h2
          clear hR6 hab6 hb h1 h2
          go_wp2
          refine hK.out _ _ trivial (fun hHeld => ?_)
          clear hK K
          try simp only [Act.put, List.setIfInBounds_toArray, List.set_cons_zero, List.set_cons_succ]
          refine wpAnyH_ready (rs := [7]) (by kernel_rfl) (by simp) ?_
          refine AllReadyH.cons (o := _) rfl (fun K hK => ?_) ?_
          · go_simp
            refine hK.out _ _ trivial (fun hHeld => ?_)
            clear hK K
            try simp only [Act.put, List.setIfInBounds_toArray, List.set_cons_zero, List.set_cons_succ]
            refine wpAnyH_take (i := 8) (v := ?_) rfl (by kernel_rfl) (by kernel_rfl) (by kernel_rfl) (fun _ _ _ h => h) (Or.inl ⟨by rfl, ?_⟩) (by assumption) ?_
            rotate_left
            · intro w hSw
              go_simp
              try (with_reducible rfl)
            try simp only [Act.put, List.setIfInBounds_toArray, List.set_cons_zero, List.set_cons_succ]
            refine wpAnyH_ready (rs := [9]) (by kernel_rfl) (by simp) ?_
            refine AllReadyH.cons (o := _) rfl (fun K hK => ?_) ?_
            · go_simp
              refine hK.out _ _ trivial (fun hHeld => ?_)
              clear hK K
              try simp only [Act.put, List.setIfInBounds_toArray, List.set_cons_zero, List.set_cons_succ]
              refine wpAnyH_done (by kernel_rfl) ?_ _
              refine NoPanic.normal ?_
              go_wp2
              refine bodyPost_ret (results_cell_row rfl _ _ (w.heap.size + 1) 38 #[.bool true, .slice A5 n1 c5, .slice A6 d2.length c6, .int .i64 0, .string ⟨#[]⟩] (0, 0) _ rfl ?_ Tryd.underlying38 rfl (by kernel_rfl)) rfl ?_
              · exact Ses.got_block2 (by omega) L1.out _ _ _ _ _ _ _
              · have hz5 := HB5.out.size
                have hz6 := HB6.out.size
                have q5 : ∀ k, (Value.slice A5 d1.length c5).ownBlock = some k → k ≠ w.heap.size + 1 ∧ k ≠ w.heap.size + 1 + 1 := fun k hk => by
                  have hlt : w2.heap.size ≤ k := Kd.R_base HR5.out k hk
                  omega
                have q6 : ∀ k, (Value.slice A6 d2.length c6).ownBlock = some k → k ≠ w.heap.size + 1 ∧ k ≠ w.heap.size + 1 + 1 := fun k hk => by
                  have hlt : w5.heap.size ≤ k := Kd.R_base HR6.out k hk
                  omega
                have D5 : Ses.DataB w.heap.size d1 w6 (.slice A5 d1.length c5) := Kd.R_below (Kd.R_lower HR5.out (show w.heap.size ≤ w2.heap.size by omega)) HB6.out
                have D6 : Ses.DataB w.heap.size d2 w6 (.slice A6 d2.length c6) := Kd.R_lower HR6.out (by omega)
                rw [HN1.out]
                refine ⟨A5, _, c5, A6, _, c6, rfl, ?_, ?_, ?_, ?_⟩
                · iterate 5 refine Ses.DataB_far ?_ (fun k hk => (q5 k hk).1) _
                  iterate 2 refine Ses.DataB_far ?_ (fun k hk => (q5 k hk).2) _
                  exact D5
                · iterate 5 refine Ses.DataB_far ?_ (fun k hk => (q6 k hk).1) _
                  iterate 2 refine Ses.DataB_far ?_ (fun k hk => (q6 k hk).2) _
                  exact D6
                · iterate 7 refine Ses.RS.far ?_ _ (by omega) (by omega)
                  exact (hXr.out.bl HB5.out).bl HB6.out
                · iterate 7 refine grown_far ?_ _ (by omega)
                  exact grown_bl (grown_bl hXg.out HB5.out) HB6.out
            exact AllReadyH.nil
          exact AllReadyH.nil
        exact AllReadyH.nil
      exact AllReadyH.nil
    refine AllReadyH.cons (o := _) rfl (fun K hK => ?_) ?_
    · go_simp
      refine hK.out _ _ trivial (fun hHeld => ?_)
      clear hK K
      try simp only [Act.put, List.setIfInBounds_toArray, List.set_cons_zero, List.set_cons_succ]
      refine wpAnyH_ready (rs := [2]) (by kernel_rfl) (by simp) ?_
      refine AllReadyH.cons (o := _) rfl (fun K hK => ?_) ?_
      · go_simp
        go_at_call 17
        refine (HC1.out _ ?hb).mono ?_
        case hb => exact below_drew (Below.refl _ _)
        rintro e w5 ⟨v5, rfl, hR5, hb⟩
        obtain ⟨A5, c5, rfl, -, -, hab5, -⟩ := Ses.R_slots hR5
        have HR5 := Lib.hid hR5; have HA5 := Lib.hid hab5; have HB5 := Lib.hid ((below_drew (Below.refl w2.heap.size w2)).trans hb)
        have h1 := (HB5.out.block _ hn1).trans K1.out; have h2 := (HB5.out.block _ hn2).trans K2.out
        clear y0 z0 fy0 fz0 y1 z1 fy1 fz1 y2 z2 fy2 fz2 y3 z3 fy3 fz3 y4 z4 fy4 fz4
        have y0 := xb_cell h2 0; have z0 := xb_cell h1 0; have fy0 := blk_free h2 0; have fz0 := blk_free h1 0; have y1 := xb_cell h2 1; have z1 := xb_cell h1 1; have fy1 := blk_free h2 1; have fz1 := blk_free h1 1; have y2 := xb_cell h2 2; have z2 := xb_cell h1 2; have fy2 := blk_free h2 2; have fz2 := blk_free h1 2; have y3 := xb_cell h2 3; have z3 := xb_cell h1 3; have fy3 := blk_free h2 3; have fz3 := blk_free h1 3; have y4 := xb_cell h2 4; have z4 := xb_cell h1 4; have fy4 := blk_free h2 4; have fz4 := blk_free h1 4; simp only [List.getElem?_toArray, List.getElem?_cons_zero, List.getElem?_cons_succ] at y0 z0 y1 z1 y2 z2 y3 z3 y4 z4
        have H1 := Lib.hid h1; have H2 := Lib.hid h2
        clear hR5 hab5 hb h1 h2
        rw [← HN1.out]
        go_wp2
        refine hK.out _ _ trivial (fun hHeld => ?_)
        clear hK K
        try simp only [Act.put, List.setIfInBounds_toArray, List.set_cons_zero, List.set_cons_succ]
        refine wpAnyH_take (i := 6) (v := ?_) rfl (by kernel_rfl) (by kernel_rfl) (by kernel_rfl) (fun _ _ _ h => h) (Or.inl ⟨by rfl, ?_⟩) (by assumption) ?_
        rotate_left
        · intro w hSw
          go_simp
          try (with_reducible rfl)
        try simp only [Act.put, List.setIfInBounds_toArray, List.set_cons_zero, List.set_cons_succ]
        refine wpAnyH_ready (rs := [5]) (by kernel_rfl) (by simp) ?_
        refine AllReadyH.cons (o := _) rfl (fun K hK => ?_) ?_
        · go_simp
          go_at_call 17
          refine (HC2.out _ ?hb).mono ?_
          case hb => exact HB5.out
          rintro e w6 ⟨v6, rfl, hR6, hb⟩
          obtain ⟨A6, c6, rfl, -, -, hab6, -⟩ := Ses.R_slots hR6
          have HR6 := Lib.hid hR6; have HA6 := Lib.hid hab6; have HB6 := Lib.hid hb
          have h1 := (hb.block _ (xb_lt H1.out)).trans H1.out; have h2 := (hb.block _ (xb_lt H2.out)).trans H2.out
          clear y0 z0 fy0 fz0 y1 z1 fy1 fz1 y2 z2 fy2 fz2 y3 z3 fy3 fz3 y4 z4 fy4 fz4
          have y0 := xb_cell h2 0; have z0 := xb_cell h1 0; have fy0 := blk_free h2 0; have fz0 := blk_free h1 0; have y1 := xb_cell h2 1; have z1 := xb_cell h1 1; have fy1 := blk_free h2 1; have fz1 := blk_free h1 1; have y2 := xb_cell h2 2; have z2 := xb_cell h1 2; have fy2 := blk_free h2 2; have fz2 := blk_free h1 2; have y3 := xb_cell h2 3; have z3 := xb_cell h1 3; have fy3 := blk_free h2 3; have fz3 := blk_free h1 3; have y4 := xb_cell h2 4; have z4 := xb_cell h1 4; have fy4 := blk_free h2 4; have fz4 := blk_free h1 4; simp only [List.getElem?_toArray, List.getElem?_cons_zero, List.getElem?_cons_succ] at y0 z0 y1 z1 y2 z2 y3 z3 y4 z4
          have L1 := Lib.hid h1; have L2 := Lib.hid h2
          clear hR6 hab6 hb h1 h2
          go_wp2
          refine hK.out _ _ trivial (fun hHeld => ?_)
          clear hK K
          try simp only [Act.put, List.setIfInBounds_toArray, List.set_cons_zero, List.set_cons_succ]
          refine wpAnyH_ready (rs := [7]) (by kernel_rfl) (by simp) ?_
          refine AllReadyH.cons (o := _) rfl (fun K hK => ?_) ?_
          · go_simp
            refine hK.out _ _ trivial (fun hHeld => ?_)
            clear hK K
            try simp only [Act.put, List.setIfInBounds_toArray, List.set_cons_zero, List.set_cons_succ]
            refine wpAnyH_take (i := 8) (v := ?_) rfl (by kernel_rfl) (by kernel_rfl) (by kernel_rfl) (fun _ _ _ h => h) (Or.inl ⟨by rfl, ?_⟩) (by assumption) ?_
            rotate_left
            · intro w hSw
              go_simp
              try (with_reducible rfl)
            try simp only [Act.put, List.setIfInBounds_toArray, List.set_cons_zero, List.set_cons_succ]
            refine wpAnyH_ready (rs := [9]) (by kernel_rfl) (by simp) ?_
            refine AllReadyH.cons (o := _) rfl (fun K hK => ?_) ?_
            · go_simp
              refine hK.out _ _ trivial (fun hHeld => ?_)
              clear hK K
              try simp only [Act.put, List.setIfInBounds_toArray, List.set_cons_zero, List.set_cons_succ]
              refine wpAnyH_done (by kernel_rfl) ?_ _
              refine NoPanic.normal ?_
              go_wp2
              refine bodyPost_ret (results_cell_row rfl _ _ (w.heap.size + 1) 38 #[.bool true, .slice A5 n1 c5, .slice A6 d2.length c6, .int .i64 0, .string ⟨#[]⟩] (0, 0) _ rfl ?_ Tryd.underlying38 rfl (by kernel_rfl)) rfl ?_
              · exact Ses.got_block2 (by omega) L1.out _ _ _ _ _ _ _
              · have hz5 := HB5.out.size
                have hz6 := HB6.out.size
                have q5 : ∀ k, (Value.slice A5 d1.length c5).ownBlock = some k → k ≠ w.heap.size + 1 ∧ k ≠ w.heap.size + 1 + 1 := fun k hk => by
                  have hlt : w2.heap.size ≤ k := Kd.R_base HR5.out k hk
                  omega
                have q6 : ∀ k, (Value.slice A6 d2.length c6).ownBlock = some k → k ≠ w.heap.size + 1 ∧ k ≠ w.heap.size + 1 + 1 := fun k hk => by
                  have hlt : w5.heap.size ≤ k := Kd.R_base HR6.out k hk
                  omega
                have D5 : Ses.DataB w.heap.size d1 w6 (.slice A5 d1.length c5) := Kd.R_below (Kd.R_lower HR5.out (show w.heap.size ≤ w2.heap.size by omega)) HB6.out
                have D6 : Ses.DataB w.heap.size d2 w6 (.slice A6 d2.length c6) := Kd.R_lower HR6.out (by omega)
                rw [HN1.out]
                refine ⟨A5, _, c5, A6, _, c6, rfl, ?_, ?_, ?_, ?_⟩
                · iterate 5 refine Ses.DataB_far ?_ (fun k hk => (q5 k hk).1) _
                  iterate 2 refine Ses.DataB_far ?_ (fun k hk => (q5 k hk).2) _
                  exact D5
                · iterate 5 refine Ses.DataB_far ?_ (fun k hk => (q6 k hk).1) _
                  iterate 2 refine Ses.DataB_far ?_ (fun k hk => (q6 k hk).2) _
                  exact D6
                · iterate 7 refine Ses.RS.far ?_ _ (by omega) (by omega)
                  exact (hXr.out.bl HB5.out).bl HB6.out
                · iterate 7 refine grown_far ?_ _ (by omega)
                  exact grown_bl (grown_bl hXg.out HB5.out) HB6.out
            exact AllReadyH.nil
          exact AllReadyH.nil
        exact AllReadyH.nil
      exact AllReadyH.nil
    exact AllReadyH.nil
  refine AllReadyH.cons (o := _) rfl (fun K hK => ?_) ?_
  · go_simp
    refine hK.out _ _ trivial (fun hHeld => ?_)
    clear hK K
    try simp only [Act.put, List.setIfInBounds_toArray, List.set_cons_zero, List.set_cons_succ]
    refine wpAnyH_ready (rs := [1]) (by kernel_rfl) (by simp) ?_
    refine AllReadyH.cons (o := _) rfl (fun K hK => ?_) ?_
    · go_simp
      refine hK.out _ _ trivial (fun hHeld => ?_)
      clear hK K
      try simp only [Act.put, List.setIfInBounds_toArray, List.set_cons_zero, List.set_cons_succ]
      refine wpAnyH_ready (rs := [2]) (by kernel_rfl) (by simp) ?_
      refine AllReadyH.cons (o := _) rfl (fun K hK => ?_) ?_
      · go_simp
        go_at_call 17
        refine (HC1.out _ ?hb).mono ?_
        case hb => exact below_drew (Below.refl _ _)
        rintro e w5 ⟨v5, rfl, hR5, hb⟩
        obtain ⟨A5, c5, rfl, -, -, hab5, -⟩ := Ses.R_slots hR5
        have HR5 := Lib.hid hR5; have HA5 := Lib.hid hab5; have HB5 := Lib.hid ((below_drew (Below.refl w2.heap.size w2)).trans hb)
        have h1 := (HB5.out.block _ hn1).trans K1.out; have h2 := (HB5.out.block _ hn2).trans K2.out
        clear y0 z0 fy0 fz0 y1 z1 fy1 fz1 y2 z2 fy2 fz2 y3 z3 fy3 fz3 y4 z4 fy4 fz4
        have y0 := xb_cell h2 0; have z0 := xb_cell h1 0; have fy0 := blk_free h2 0; have fz0 := blk_free h1 0; have y1 := xb_cell h2 1; have z1 := xb_cell h1 1; have fy1 := blk_free h2 1; have fz1 := blk_free h1 1; have y2 := xb_cell h2 2; have z2 := xb_cell h1 2; have fy2 := blk_free h2 2; have fz2 := blk_free h1 2; have y3 := xb_cell h2 3; have z3 := xb_cell h1 3; have fy3 := blk_free h2 3; have fz3 := blk_free h1 3; have y4 := xb_cell h2 4; have z4 := xb_cell h1 4; have fy4 := blk_free h2 4; have fz4 := blk_free h1 4; simp only [List.getElem?_toArray, List.getElem?_cons_zero, List.getElem?_cons_succ] at y0 z0 y1 z1 y2 z2 y3 z3 y4 z4
        have H1 := Lib.hid h1; have H2 := Lib.hid h2
        clear hR5 hab5 hb h1 h2
        rw [← HN1.out]
        go_wp2
        refine hK.out _ _ trivial (fun hHeld => ?_)
        clear hK K
        try simp only [Act.put, List.setIfInBounds_toArray, List.set_cons_zero, List.set_cons_succ]
        refine wpAnyH_take (i := 6) (v := ?_) rfl (by kernel_rfl) (by kernel_rfl) (by kernel_rfl) (fun _ _ _ h => h) (Or.inl ⟨by rfl, ?_⟩) (by assumption) ?_
        rotate_left
        · intro w hSw
          go_simp
          try (with_reducible rfl)
        try simp only [Act.put, List.setIfInBounds_toArray, List.set_cons_zero, List.set_cons_succ]
        refine wpAnyH_ready (rs := [5]) (by kernel_rfl) (by simp) ?_
        refine AllReadyH.cons (o := _) rfl (fun K hK => ?_) ?_
        · go_simp
          go_at_call 17
          refine (HC2.out _ ?hb).mono ?_
          case hb => exact HB5.out
          rintro e w6 ⟨v6, rfl, hR6, hb⟩
          obtain ⟨A6, c6, rfl, -, -, hab6, -⟩ := Ses.R_slots hR6
          have HR6 := Lib.hid hR6; have HA6 := Lib.hid hab6; have HB6 := Lib.hid hb
          have h1 := (hb.block _ (xb_lt H1.out)).trans H1.out; have h2 := (hb.block _ (xb_lt H2.out)).trans H2.out
          clear y0 z0 fy0 fz0 y1 z1 fy1 fz1 y2 z2 fy2 fz2 y3 z3 fy3 fz3 y4 z4 fy4 fz4
          have y0 := xb_cell h2 0; have z0 := xb_cell h1 0; have fy0 := blk_free h2 0; have fz0 := blk_free h1 0; have y1 := xb_cell h2 1; have z1 := xb_cell h1 1; have fy1 := blk_free h2 1; have fz1 := blk_free h1 1; have y2 := xb_cell h2 2; have z2 := xb_cell h1 2; have fy2 := blk_free h2 2; have fz2 := blk_free h1 2; have y3 := xb_cell h2 3; have z3 := xb_cell h1 3; have fy3 := blk_free h2 3; have fz3 := blk_free h1 3; have y4 := xb_cell h2 4; have z4 := xb_cell h1 4; have fy4 := blk_free h2 4; have fz4 := blk_free h1 4; simp only [List.getElem?_toArray, List.getElem?_cons_zero, List.getElem?_cons_succ] at y0 z0 y1 z1 y2 z2 y3 z3 y4 z4
          have L1 := Lib.hid h1; have L2 := Lib.hid h2
          clear hR6 hab6 hb h1 h2
          go_wp2
          refine hK.out _ _ trivial (fun hHeld => ?_)
          clear hK K
          try simp only [Act.put, List.setIfInBounds_toArray, List.set_cons_zero, List.set_cons_succ]
          refine wpAnyH_ready (rs := [7]) (by kernel_rfl) (by simp) ?_
          refine AllReadyH.cons (o := _) rfl (fun K hK => ?_) ?_
          · go_simp
            refine hK.out _ _ trivial (fun hHeld => ?_)
            clear hK K
            try simp only [Act.put, List.setIfInBounds_toArray, List.set_cons_zero, List.set_cons_succ]
            refine wpAnyH_take (i := 8) (v := ?_) rfl (by kernel_rfl) (by kernel_rfl) (by kernel_rfl) (fun _ _ _ h => h) (Or.inl ⟨by rfl, ?_⟩) (by assumption) ?_
            rotate_left
            · intro w hSw
              go_simp
              try (with_reducible rfl)
            try simp only [Act.put, List.setIfInBounds_toArray, List.set_cons_zero, List.set_cons_succ]
            refine wpAnyH_ready (rs := [9]) (by kernel_rfl) (by simp) ?_
            refine AllReadyH.cons (o := _) rfl (fun K hK => ?_) ?_
            · go_simp
              refine hK.out _ _ trivial (fun hHeld => ?_)
              clear hK K
              try simp only [Act.put, List.setIfInBounds_toArray, List.set_cons_zero, List.set_cons_succ]
              refine wpAnyH_done (by kernel_rfl) ?_ _
              refine NoPanic.normal ?_
              go_wp2
              refine bodyPost_ret (results_cell_row rfl _ _ (w.heap.size + 1) 38 #[.bool true, .slice A5 n1 c5, .slice A6 d2.length c6, .int .i64 0, .string ⟨#[]⟩] (0, 0) _ rfl ?_ Tryd.underlying38 rfl (by kernel_rfl)) rfl ?_
              · exact Ses.got_block2 (by omega) L1.out _ _ _ _ _ _ _
              · have hz5 := HB5.out.size
                have hz6 := HB6.out.size
                have q5 : ∀ k, (Value.slice A5 d1.length c5).ownBlock = some k → k ≠ w.heap.size + 1 ∧ k ≠ w.heap.size + 1 + 1 := fun k hk => by
                  have hlt : w2.heap.size ≤ k := Kd.R_base HR5.out k hk
                  omega
                have q6 : ∀ k, (Value.slice A6 d2.length c6).ownBlock = some k → k ≠ w.heap.size + 1 ∧ k ≠ w.heap.size + 1 + 1 := fun k hk => by
                  have hlt : w5.heap.size ≤ k := Kd.R_base HR6.out k hk
                  omega
                have D5 : Ses.DataB w.heap.size d1 w6 (.slice A5 d1.length c5) := Kd.R_below (Kd.R_lower HR5.out (show w.heap.size ≤ w2.heap.size by omega)) HB6.out
                have D6 : Ses.DataB w.heap.size d2 w6 (.slice A6 d2.length c6) := Kd.R_lower HR6.out (by omega)
                rw [HN1.out]
                refine ⟨A5, _, c5, A6, _, c6, rfl, ?_, ?_, ?_, ?_⟩
                · iterate 5 refine Ses.DataB_far ?_ (fun k hk => (q5 k hk).1) _
                  iterate 2 refine Ses.DataB_far ?_ (fun k hk => (q5 k hk).2) _
                  exact D5
                · iterate 5 refine Ses.DataB_far ?_ (fun k hk => (q6 k hk).1) _
                  iterate 2 refine Ses.DataB_far ?_ (fun k hk => (q6 k hk).2) _
                  exact D6
                · iterate 7 refine Ses.RS.far ?_ _ (by omega) (by omega)
                  exact (hXr.out.bl HB5.out).bl HB6.out
                · iterate 7 refine grown_far ?_ _ (by omega)
                  exact grown_bl (grown_bl hXg.out HB5.out) HB6.out
            exact AllReadyH.nil
          exact AllReadyH.nil
        exact AllReadyH.nil
      exact AllReadyH.nil
    exact AllReadyH.nil
  exact AllReadyH.nil
set_option maxHeartbeats 8000000 in
set_option maxRecDepth 100000 in
/-- A fixed CLR. -/
theorem got_fixed (w : World) (b g c : Nat) (l : List Int) (idx idx' : Nat) (big : Bool) (chunk size : Int) (sb sc : Bool) (d1 : List Int) (h : Ses.RS w b g c l idx big chunk) (hsz : 0 ≤ size) (hd : d1.length ≤ 1000000)
    (hf : ∀ W, Ses.RS W b g c l idx big chunk → w.heap.size ≤ W.heap.size → Calls Tryd.prog 77 #[.pointer (some ⟨b, 0, none⟩)] W (Ses.RdP b g c l idx' big chunk d1 w.heap.size W)) :
    Calls Tryd.prog 48 #[.pointer (some ⟨b, 0, none⟩), .agg #[.int .i64 8, .int .i64 size, .bool sb, .bool sc]] w (Ses.GotP b g c l idx' big chunk d1 [] 0 w) := by
  have hb := xb_lt h.blk
  have hg0 := h.lt
  obtain ⟨d2, hd2⟩ : ∃ d2 : List Int, d2 = [] := ⟨_, rfl⟩
  rw [← hd2]
  have hl2 : d2.length ≤ 1000000 := by rw [hd2]; simp
  have HR := Lib.hid hf
  have HH := Lib.hid (h.bl (Ses.W3_bl w 8 size sb sc))
  have hz3 := Ses.W3_size w 8 size sb sc
  obtain ⟨n1, hn1'⟩ : ∃ n1, n1 = d1.length := ⟨_, rfl⟩
  have HN1 := Lib.hid hn1'
  have HD2 := Lib.hid hd2
  have HLd := Lib.hid (And.intro hd hl2)
  have tneg : decide (size < 0) = false := decide_eq_false (by omega)
  unfold Ses.W3 at HH hz3
  clear h hf hn1' hd2 hd hl2 hsz
  go_enter Tryd.func48, Tryd.ntmps48
  go_wp2_with (first | (go_at_call 77; (with_reducible refine (HR.out _ ?hrs ?hsz).mono ?_); (case hrs => exact HH.out); (case hsz => omega); rintro e w1 ⟨A1, c1, rfl, hC, hab, hrs, hg, -⟩; (rw [← HN1.out]); have HRS := Lib.hid hrs; have HG := Lib.hid (Ses.W3_grown (kind := 8) (size := size) (big := sb) (comp := sc) hb hg); have HCl := Lib.hid hC; have HAb := Lib.hid hab; have hk3 := Ses.G3_of (kind := 8) (size := size) (big := sb) (comp := sc) hb hg; have x0 := xb_cell hk3.k0 0; have x1 := xb_cell hk3.k0 1; have x2 := xb_cell hk3.k0 2; have x3 := xb_cell hk3.k0 3; have y0 := xb_cell hk3.k2 0; have z0 := xb_cell hk3.k1 0; have fy0 := blk_free hk3.k2 0; have fz0 := blk_free hk3.k1 0; have y1 := xb_cell hk3.k2 1; have z1 := xb_cell hk3.k1 1; have fy1 := blk_free hk3.k2 1; have fz1 := blk_free hk3.k1 1; have y2 := xb_cell hk3.k2 2; have z2 := xb_cell hk3.k1 2; have fy2 := blk_free hk3.k2 2; have fz2 := blk_free hk3.k1 2; have y3 := xb_cell hk3.k2 3; have z3 := xb_cell hk3.k1 3; have fy3 := blk_free hk3.k2 3; have fz3 := blk_free hk3.k1 3; have y4 := xb_cell hk3.k2 4; have z4 := xb_cell hk3.k1 4; have fy4 := blk_free hk3.k2 4; have fz4 := blk_free hk3.k1 4; simp only [List.getElem?_toArray, List.getElem?_cons_zero, List.getElem?_cons_succ] at y0 z0 y1 z1 y2 z2 y3 z3 y4 z4; have K0 := Lib.hid hk3; simp only [List.getElem?_toArray, List.getElem?_cons_zero, List.getElem?_cons_succ] at x0 x1 x2 x3; clear hrs hg hk3 hC hab))
  have hab1 : ∀ a, A1 = some a → a.block ≠ w.heap.size + 1 + 1 := fun a ha => by
    have := HAb.out a ha
    rw [hz3] at this
    omega
  have hX1 : Hid (((w1.setCell ⟨w.heap.size + 1 + 1, 1, none⟩ (.slice A1 n1 c1)).setCell ⟨w.heap.size + 1 + 1, 0, none⟩ (.bool true)).heap[w.heap.size + 1]? = some (.cells #[.bool false, .slice none 0 0, .slice none 0 0, .int .i64 0, .string ⟨#[]⟩] 38 (0, 0))) := Lib.hid ((blk_set_other (by omega)).trans ((blk_set_other (by omega)).trans K0.out.k1))
  have hX2 : Hid (((w1.setCell ⟨w.heap.size + 1 + 1, 1, none⟩ (.slice A1 n1 c1)).setCell ⟨w.heap.size + 1 + 1, 0, none⟩ (.bool true)).heap[w.heap.size + 1 + 1]? = some (.cells #[.bool true, .slice A1 n1 c1, .slice none 0 0, .int .i64 0, .string ⟨#[]⟩] 38 (0, 0))) := Lib.hid ((xb_set (xb_set K0.out.k2 1 _) 0 _).trans (by simp))
  have hXr : Hid (Ses.RS ((w1.setCell ⟨w.heap.size + 1 + 1, 1, none⟩ (.slice A1 n1 c1)).setCell ⟨w.heap.size + 1 + 1, 0, none⟩ (.bool true)) b g c l idx' big chunk) := Lib.hid ((HRS.out.far _ (by omega) (by omega)).far _ (by omega) (by omega))
  have hXg : Hid (w.grownBy ((w1.setCell ⟨w.heap.size + 1 + 1, 1, none⟩ (.slice A1 n1 c1)).setCell ⟨w.heap.size + 1 + 1, 0, none⟩ (.bool true)) (some b)) := Lib.hid (grown_far (grown_far HG.out _ (by omega)) _ (by omega))
  have hXc : Hid (Kd.C (Kd.int .u8) ((w1.setCell ⟨w.heap.size + 1 + 1, 1, none⟩ (.slice A1 n1 c1)).setCell ⟨w.heap.size + 1 + 1, 0, none⟩ (.bool true)) A1 d1.length d1) := Lib.hid (C_far (C_far HCl.out hab1) hab1)
  clear y0 z0 fy0 fz0 y1 z1 fy1 fz1 y2 z2 fy2 fz2 y3 z3 fy3 fz3 y4 z4 fy4 fz4 x0 x1 x2 x3 hab1
  generalize ((w1.setCell ⟨w.heap.size + 1 + 1, 1, none⟩ (.slice A1 n1 c1)).setCell ⟨w.heap.size + 1 + 1, 0, none⟩ (.bool true)) = w2 at *
  have hn1 := xb_lt hX1.out
  have hn2 := xb_lt hX2.out
  have K1 := hX1
  have K2 := hX2
  have y0 := xb_cell K2.out 0; have z0 := xb_cell K1.out 0; have fy0 := blk_free K2.out 0; have fz0 := blk_free K1.out 0; have y1 := xb_cell K2.out 1; have z1 := xb_cell K1.out 1; have fy1 := blk_free K2.out 1; have fz1 := blk_free K1.out 1; have y2 := xb_cell K2.out 2; have z2 := xb_cell K1.out 2; have fy2 := blk_free K2.out 2; have fz2 := blk_free K1.out 2; have y3 := xb_cell K2.out 3; have z3 := xb_cell K1.out 3; have fy3 := blk_free K2.out 3; have fz3 := blk_free K1.out 3; have y4 := xb_cell K2.out 4; have z4 := xb_cell K1.out 4; have fy4 := blk_free K2.out 4; have fz4 := blk_free K1.out 4; simp only [List.getElem?_toArray, List.getElem?_cons_zero, List.getElem?_cons_succ] at y0 z0 y1 z1 y2 z2 y3 z3 y4 z4
  have HC1 : Hid (∀ W : World, Below w2.heap.size w2 W → Calls Tryd.prog 17 #[.slice A1 n1 c1] W fun e w' => ∃ v, e = .returned v ∧ Kd.R (Kd.int .u8) 5 w' W.heap.size (fun _ => True) v d1 ∧ Below W.heap.size W w') := Lib.hid (fun W hW => by
    have h := clone_any A1 c1 d1 W (Kd.C_below hXc.out hW) (by have := HLd.out.1; omega)
    rw [← HN1.out] at h
    exact h)
  have HC2 : Hid (∀ W : World, Below w2.heap.size w2 W → Calls Tryd.prog 17 #[.slice none 0 0] W fun e w' => ∃ v, e = .returned v ∧ Kd.R (Kd.int .u8) 5 w' W.heap.size (fun _ => True) v d2 ∧ Below W.heap.size W w') := Lib.hid (fun W hW => by
    have h := clone_any none 0 [] W (C_empty _ _ _) (by simp)
    rw [HD2.out]
    exact h)
  refine wp_region_noPanic ?_
  refine wp_region_held_drew (S := fun _ => True) (by kernel_rfl) trivial (fun hHeld => ?_)
  refine wpAnyH_take (i := 0) (v := ?_) rfl (by kernel_rfl) (by kernel_rfl) (by kernel_rfl) (fun _ _ _ h => h) (Or.inl ⟨by rfl, ?_⟩) (by assumption) ?_
  rotate_left
  · intro w hSw
    go_simp
    try (with_reducible rfl)
  try simp only [Act.put, List.setIfInBounds_toArray, List.set_cons_zero, List.set_cons_succ]
  refine wpAnyH_take (i := 3) (v := ?_) rfl (by kernel_rfl) (by kernel_rfl) (by kernel_rfl) (fun _ _ _ h => h) (Or.inl ⟨by rfl, ?_⟩) (by assumption) ?_
  rotate_left
  · intro w hSw
    go_simp
    try (with_reducible rfl)
  try simp only [Act.put, List.setIfInBounds_toArray, List.set_cons_zero, List.set_cons_succ]
  refine wpAnyH_ready (rs := [1, 4]) (by kernel_rfl) (by simp) ?_
  refine AllReadyH.cons (o := _) rfl (fun K hK => ?_) ?_
  · go_simp
    refine hK.out _ _ trivial (fun hHeld => ?_)
    clear hK K
    try simp only [Act.put, List.setIfInBounds_toArray, List.set_cons_zero, List.set_cons_succ]
    refine wpAnyH_ready (rs := [2, 4]) (by kernel_rfl) (by simp) ?_
    refine AllReadyH.cons (o := _) rfl (fun K hK => ?_) ?_
    · go_simp
      go_at_call 17
      refine (HC1.out _ ?hb).mono ?_
      case hb => exact below_drew (Below.refl _ _)
      rintro e w5 ⟨v5, rfl, hR5, hb⟩
      obtain ⟨A5, c5, rfl, -, -, hab5, -⟩ := Ses.R_slots hR5
      have HR5 := Lib.hid hR5; have HA5 := Lib.hid hab5; have HB5 := Lib.hid ((below_drew (Below.refl w2.heap.size w2)).trans hb)
      have h1 := (HB5.out.block _ hn1).trans K1.out; have h2 := (HB5.out.block _ hn2).trans K2.out
      clear y0 z0 fy0 fz0 y1 z1 fy1 fz1 y2 z2 fy2 fz2 y3 z3 fy3 fz3 y4 z4 fy4 fz4
      have y0 := xb_cell h2 0; have z0 := xb_cell h1 0; have fy0 := blk_free h2 0; have fz0 := blk_free h1 0; have y1 := xb_cell h2 1; have z1 := xb_cell h1 1; have fy1 := blk_free h2 1; have fz1 := blk_free h1 1; have y2 := xb_cell h2 2; have z2 := xb_cell h1 2; have fy2 := blk_free h2 2; have fz2 := blk_free h1 2; have y3 := xb_cell h2 3; have z3 := xb_cell h1 3; have fy3 := blk_free h2 3; have fz3 := blk_free h1 3; have y4 := xb_cell h2 4; have z4 := xb_cell h1 4; have fy4 := blk_free h2 4; have fz4 := blk_free h1 4; simp only [List.getElem?_toArray, List.getElem?_cons_zero, List.getElem?_cons_succ] at y0 z0 y1 z1 y2 z2 y3 z3 y4 z4
      have H1 := Lib.hid h1; have H2 := Lib.hid h2
      clear hR5 hab5 hb h1 h2
      rw [← HN1.out]
      go_wp2
      refine hK.out _ _ trivial (fun hHeld => ?_)
      clear hK K
      try simp only [Act.put, List.setIfInBounds_toArray, List.set_cons_zero, List.set_cons_succ]
      refine wpAnyH_ready (rs := [4]) (by kernel_rfl) (by simp) ?_
      refine AllReadyH.cons (o := _) rfl (fun K hK => ?_) ?_
      · go_simp
        refine hK.out _ _ trivial (fun hHeld => ?_)
        clear hK K
        try simp only [Act.put, List.setIfInBounds_toArray, List.set_cons_zero, List.set_cons_succ]
        refine wpAnyH_take (i := 6) (v := ?_) rfl (by kernel_rfl) (by kernel_rfl) (by kernel_rfl) (fun _ _ _ h => h) (Or.inl ⟨by rfl, ?_⟩) (by assumption) ?_
        rotate_left
        · intro w hSw
          go_simp
          try (with_reducible rfl)
        try simp only [Act.put, List.setIfInBounds_toArray, List.set_cons_zero, List.set_cons_succ]
        refine wpAnyH_ready (rs := [5]) (by kernel_rfl) (by simp) ?_
        refine AllReadyH.cons (o := _) rfl (fun K hK => ?_) ?_
        · go_simp
          go_at_call 17
          refine (HC2.out _ ?hb).mono ?_
          case hb => exact HB5.out
          rintro e w6 ⟨v6, rfl, hR6, hb⟩
          obtain ⟨A6, c6, rfl, -, -, hab6, -⟩ := Ses.R_slots hR6
          have HR6 := Lib.hid hR6; have HA6 := Lib.hid hab6; have HB6 := Lib.hid hb
          have h1 := (hb.block _ (xb_lt H1.out)).trans H1.out; have h2 := (hb.block _ (xb_lt H2.out)).trans H2.out
          clear y0 z0 fy0 fz0 y1 z1 fy1 fz1 y2 z2 fy2 fz2 y3 z3 fy3 fz3 y4 z4 fy4 fz4
          have y0 := xb_cell h2 0; have z0 := xb_cell h1 0; have fy0 := blk_free h2 0; have fz0 := blk_free h1 0; have y1 := xb_cell h2 1; have z1 := xb_cell h1 1; have fy1 := blk_free h2 1; have fz1 := blk_free h1 1; have y2 := xb_cell h2 2; have z2 := xb_cell h1 2; have fy2 := blk_free h2 2; have fz2 := blk_free h1 2; have y3 := xb_cell h2 3; have z3 := xb_cell h1 3; have fy3 := blk_free h2 3; have fz3 := blk_free h1 3; have y4 := xb_cell h2 4; have z4 := xb_cell h1 4; have fy4 := blk_free h2 4; have fz4 := blk_free h1 4; simp only [List.getElem?_toArray, List.getElem?_cons_zero, List.getElem?_cons_succ] at y0 z0 y1 z1 y2 z2 y3 z3 y4 z4
          have L1 := Lib.hid h1; have L2 := Lib.hid h2
          clear hR6 hab6 hb h1 h2
          go_wp2
          refine hK.out _ _ trivial (fun hHeld => ?_)
          clear hK K
          try simp only [Act.put, List.setIfInBounds_toArray, List.set_cons_zero, List.set_cons_succ]
          refine wpAnyH_ready (rs := [7]) (by kernel_rfl) (by simp) ?_
          refine AllReadyH.cons (o := _) rfl (fun K hK => ?_) ?_
          · go_simp
            refine hK.out _ _ trivial (fun hHeld => ?_)
            clear hK K
            try simp only [Act.put, List.setIfInBounds_toArray, List.set_cons_zero, List.set_cons_succ]
            refine wpAnyH_take (i := 8) (v := ?_) rfl (by kernel_rfl) (by kernel_rfl) (by kernel_rfl) (fun _ _ _ h => h) (Or.inl ⟨by rfl, ?_⟩) (by assumption) ?_
            rotate_left
            · intro w hSw
              go_simp
              try (with_reducible rfl)
            try simp only [Act.put, List.setIfInBounds_toArray, List.set_cons_zero, List.set_cons_succ]
            refine wpAnyH_ready (rs := [9]) (by kernel_rfl) (by simp) ?_
            refine AllReadyH.cons (o := _) rfl (fun K hK => ?_) ?_
            · go_simp
              refine hK.out _ _ trivial (fun hHeld => ?_)
              clear hK K
              try simp only [Act.put, List.setIfInBounds_toArray, List.set_cons_zero, List.set_cons_succ]
              refine wpAnyH_done (by kernel_rfl) ?_ _
              refine NoPanic.normal ?_
              go_wp2
              refine bodyPost_ret (results_cell_row rfl _ _ (w.heap.size + 1) 38 #[.bool true, .slice A5 n1 c5, .slice A6 d2.length c6, .int .i64 0, .string ⟨#[]⟩] (0, 0) _ rfl ?_ Tryd.underlying38 rfl (by kernel_rfl)) rfl ?_
              · exact Ses.got_block2 (by omega) L1.out _ _ _ _ _ _ _
              · have hz5 := HB5.out.size
                have hz6 := HB6.out.size
                have q5 : ∀ k, (Value.slice A5 d1.length c5).ownBlock = some k → k ≠ w.heap.size + 1 ∧ k ≠ w.heap.size + 1 + 1 := fun k hk => by
                  have hlt : w2.heap.size ≤ k := Kd.R_base HR5.out k hk
                  omega
                have q6 : ∀ k, (Value.slice A6 d2.length c6).ownBlock = some k → k ≠ w.heap.size + 1 ∧ k ≠ w.heap.size + 1 + 1 := fun k hk => by
                  have hlt : w5.heap.size ≤ k := Kd.R_base HR6.out k hk
                  omega
                have D5 : Ses.DataB w.heap.size d1 w6 (.slice A5 d1.length c5) := Kd.R_below (Kd.R_lower HR5.out (show w.heap.size ≤ w2.heap.size by omega)) HB6.out
                have D6 : Ses.DataB w.heap.size d2 w6 (.slice A6 d2.length c6) := Kd.R_lower HR6.out (by omega)
                rw [HN1.out]
                refine ⟨A5, _, c5, A6, _, c6, rfl, ?_, ?_, ?_, ?_⟩
                · iterate 5 refine Ses.DataB_far ?_ (fun k hk => (q5 k hk).1) _
                  iterate 2 refine Ses.DataB_far ?_ (fun k hk => (q5 k hk).2) _
                  exact D5
                · iterate 5 refine Ses.DataB_far ?_ (fun k hk => (q6 k hk).1) _
                  iterate 2 refine Ses.DataB_far ?_ (fun k hk => (q6 k hk).2) _
                  exact D6
                · iterate 7 refine Ses.RS.far ?_ _ (by omega) (by omega)
                  exact (hXr.out.bl HB5.out).bl HB6.out
                · iterate 7 refine grown_far ?_ _ (by omega)
                  exact grown_bl (grown_bl hXg.out HB5.out) HB6.out
            exact AllReadyH.nil
          exact AllReadyH.nil
        exact AllReadyH.nil
      exact AllReadyH.nil
    refine AllReadyH.cons (o := _) rfl (fun K hK => ?_) ?_
    · go_simp
      refine hK.out _ _ trivial (fun hHeld => ?_)
      clear hK K
      try simp only [Act.put, List.setIfInBounds_toArray, List.set_cons_zero, List.set_cons_succ]
      refine wpAnyH_ready (rs := [2]) (by kernel_rfl) (by simp) ?_
      refine AllReadyH.cons (o := _) rfl (fun K hK => ?_) ?_
      · go_simp
        go_at_call 17
        refine (HC1.out _ ?hb).mono ?_
        case hb => exact below_drew (Below.refl _ _)
        rintro e w5 ⟨v5, rfl, hR5, hb⟩
        obtain ⟨A5, c5, rfl, -, -, hab5, -⟩ := Ses.R_slots hR5
        have HR5 := Lib.hid hR5; have HA5 := Lib.hid hab5; have HB5 := Lib.hid ((below_drew (Below.refl w2.heap.size w2)).trans hb)
        have h1 := (HB5.out.block _ hn1).trans K1.out; have h2 := (HB5.out.block _ hn2).trans K2.out
        clear y0 z0 fy0 fz0 y1 z1 fy1 fz1 y2 z2 fy2 fz2 y3 z3 fy3 fz3 y4 z4 fy4 fz4
        have y0 := xb_cell h2 0; have z0 := xb_cell h1 0; have fy0 := blk_free h2 0; have fz0 := blk_free h1 0; have y1 := xb_cell h2 1; have z1 := xb_cell h1 1; have fy1 := blk_free h2 1; have fz1 := blk_free h1 1; have y2 := xb_cell h2 2; have z2 := xb_cell h1 2; have fy2 := blk_free h2 2; have fz2 := blk_free h1 2; have y3 := xb_cell h2 3; have z3 := xb_cell h1 3; have fy3 := blk_free h2 3; have fz3 := blk_free h1 3; have y4 := xb_cell h2 4; have z4 := xb_cell h1 4; have fy4 := blk_free h2 4; have fz4 := blk_free h1 4; simp only [List.getElem?_toArray, List.getElem?_cons_zero, List.getElem?_cons_succ] at y0 z0 y1 z1 y2 z2 y3 z3 y4 z4
        have H1 := Lib.hid h1; have H2 := Lib.hid h2
        clear hR5 hab5 hb h1 h2
        rw [← HN1.out]
        go_wp2
        refine hK.out _ _ trivial (fun hHeld => ?_)
        clear hK K
        try simp only [Act.put, List.setIfInBounds_toArray, List.set_cons_zero, List.set_cons_succ]
        refine wpAnyH_take (i := 6) (v := ?_) rfl (by kernel_rfl) (by kernel_rfl) (by kernel_rfl) (fun _ _ _ h => h) (Or.inl ⟨by rfl, ?_⟩) (by assumption) ?_
        rotate_left
        · intro w hSw
          go_simp
          try (with_reducible rfl)
        try simp only [Act.put, List.setIfInBounds_toArray, List.set_cons_zero, List.set_cons_succ]
        refine wpAnyH_ready (rs := [5]) (by kernel_rfl) (by simp) ?_
        refine AllReadyH.cons (o := _) rfl (fun K hK => ?_) ?_
        · go_simp
          go_at_call 17
          refine (HC2.out _ ?hb).mono ?_
          case hb => exact HB5.out
          rintro e w6 ⟨v6, rfl, hR6, hb⟩
          obtain ⟨A6, c6, rfl, -, -, hab6, -⟩ := Ses.R_slots hR6
          have HR6 := Lib.hid hR6; have HA6 := Lib.hid hab6; have HB6 := Lib.hid hb
          have h1 := (hb.block _ (xb_lt H1.out)).trans H1.out; have h2 := (hb.block _ (xb_lt H2.out)).trans H2.out
          clear y0 z0 fy0 fz0 y1 z1 fy1 fz1 y2 z2 fy2 fz2 y3 z3 fy3 fz3 y4 z4 fy4 fz4
          have y0 := xb_cell h2 0; have z0 := xb_cell h1 0; have fy0 := blk_free h2 0; have fz0 := blk_free h1 0; have y1 := xb_cell h2 1; have z1 := xb_cell h1 1; have fy1 := blk_free h2 1; have fz1 := blk_free h1 1; have y2 := xb_cell h2 2; have z2 := xb_cell h1 2; have fy2 := blk_free h2 2; have fz2 := blk_free h1 2; have y3 := xb_cell h2 3; have z3 := xb_cell h1 3; have fy3 := blk_free h2 3; have fz3 := blk_free h1 3; have y4 := xb_cell h2 4; have z4 := xb_cell h1 4; have fy4 := blk_free h2 4; have fz4 := blk_free h1 4; simp only [List.getElem?_toArray, List.getElem?_cons_zero, List.getElem?_cons_succ] at y0 z0 y1 z1 y2 z2 y3 z3 y4 z4
          have L1 := Lib.hid h1; have L2 := Lib.hid h2
          clear hR6 hab6 hb h1 h2
          go_wp2
          refine hK.out _ _ trivial (fun hHeld => ?_)
          clear hK K
          try simp only [Act.put, List.setIfInBounds_toArray, List.set_cons_zero, List.set_cons_succ]
          refine wpAnyH_ready (rs := [7]) (by kernel_rfl) (by simp) ?_
          refine AllReadyH.cons (o := _) rfl (fun K hK => ?_) ?_
          · go_simp
            refine hK.out _ _ trivial (fun hHeld => ?_)
            clear hK K
            try simp only [Act.put, List.setIfInBounds_toArray, List.set_cons_zero, List.set_cons_succ]
            refine wpAnyH_take (i := 8) (v := ?_) rfl (by kernel_rfl) (by kernel_rfl) (by kernel_rfl) (fun _ _ _ h => h) (Or.inl ⟨by rfl, ?_⟩) (by assumption) ?_
            rotate_left
            · intro w hSw
              go_simp
              try (with_reducible rfl)
            try simp only [Act.put, List.setIfInBounds_toArray, List.set_cons_zero, List.set_cons_succ]
            refine wpAnyH_ready (rs := [9]) (by kernel_rfl) (by simp) ?_
            refine AllReadyH.cons (o := _) rfl (fun K hK => ?_) ?_
            · go_simp
              refine hK.out _ _ trivial (fun hHeld => ?_)
              clear hK K
              try simp only [Act.put, List.setIfInBounds_toArray, List.set_cons_zero, List.set_cons_succ]
              refine wpAnyH_done (by kernel_rfl) ?_ _
              refine NoPanic.normal ?_
              go_wp2
              refine bodyPost_ret (results_cell_row rfl _ _ (w.heap.size + 1) 38 #[.bool true, .slice A5 n1 c5, .slice A6 d2.length c6, .int .i64 0, .string ⟨#[]⟩] (0, 0) _ rfl ?_ Tryd.underlying38 rfl (by kernel_rfl)) rfl ?_
              · exact Ses.got_block2 (by omega) L1.out _ _ _ _ _ _ _
              · have hz5 := HB5.out.size
                have hz6 := HB6.out.size
                have q5 : ∀ k, (Value.slice A5 d1.length c5).ownBlock = some k → k ≠ w.heap.size + 1 ∧ k ≠ w.heap.size + 1 + 1 := fun k hk => by
                  have hlt : w2.heap.size ≤ k := Kd.R_base HR5.out k hk
                  omega
                have q6 : ∀ k, (Value.slice A6 d2.length c6).ownBlock = some k → k ≠ w.heap.size + 1 ∧ k ≠ w.heap.size + 1 + 1 := fun k hk => by
                  have hlt : w5.heap.size ≤ k := Kd.R_base HR6.out k hk
                  omega
                have D5 : Ses.DataB w.heap.size d1 w6 (.slice A5 d1.length c5) := Kd.R_below (Kd.R_lower HR5.out (show w.heap.size ≤ w2.heap.size by omega)) HB6.out
                have D6 : Ses.DataB w.heap.size d2 w6 (.slice A6 d2.length c6) := Kd.R_lower HR6.out (by omega)
                rw [HN1.out]
                refine ⟨A5, _, c5, A6, _, c6, rfl, ?_, ?_, ?_, ?_⟩
                · iterate 5 refine Ses.DataB_far ?_ (fun k hk => (q5 k hk).1) _
                  iterate 2 refine Ses.DataB_far ?_ (fun k hk => (q5 k hk).2) _
                  exact D5
                · iterate 5 refine Ses.DataB_far ?_ (fun k hk => (q6 k hk).1) _
                  iterate 2 refine Ses.DataB_far ?_ (fun k hk => (q6 k hk).2) _
                  exact D6
                · iterate 7 refine Ses.RS.far ?_ _ (by omega) (by omega)
                  exact (hXr.out.bl HB5.out).bl HB6.out
                · iterate 7 refine grown_far ?_ _ (by omega)
                  exact grown_bl (grown_bl hXg.out HB5.out) HB6.out
            exact AllReadyH.nil
          exact AllReadyH.nil
        exact AllReadyH.nil
      exact AllReadyH.nil
    exact AllReadyH.nil
  refine AllReadyH.cons (o := _) rfl (fun K hK => ?_) ?_
  · go_simp
    refine hK.out _ _ trivial (fun hHeld => ?_)
    clear hK K
    try simp only [Act.put, List.setIfInBounds_toArray, List.set_cons_zero, List.set_cons_succ]
    refine wpAnyH_ready (rs := [1]) (by kernel_rfl) (by simp) ?_
    refine AllReadyH.cons (o := _) rfl (fun K hK => ?_) ?_
    · go_simp
      refine hK.out _ _ trivial (fun hHeld => ?_)
      clear hK K
      try simp only [Act.put, List.setIfInBounds_toArray, List.set_cons_zero, List.set_cons_succ]
      refine wpAnyH_ready (rs := [2]) (by kernel_rfl) (by simp) ?_
      refine AllReadyH.cons (o := _) rfl (fun K hK => ?_) ?_
      · go_simp
        go_at_call 17
        refine (HC1.out _ ?hb).mono ?_
        case hb => exact below_drew (Below.refl _ _)
        rintro e w5 ⟨v5, rfl, hR5, hb⟩
        obtain ⟨A5, c5, rfl, -, -, hab5, -⟩ := Ses.R_slots hR5
        have HR5 := Lib.hid hR5; have HA5 := Lib.hid hab5; have HB5 := Lib.hid ((below_drew (Below.refl w2.heap.size w2)).trans hb)
        have h1 := (HB5.out.block _ hn1).trans K1.out; have h2 := (HB5.out.block _ hn2).trans K2.out
        clear y0 z0 fy0 fz0 y1 z1 fy1 fz1 y2 z2 fy2 fz2 y3 z3 fy3 fz3 y4 z4 fy4 fz4
        have y0 := xb_cell h2 0; have z0 := xb_cell h1 0; have fy0 := blk_free h2 0; have fz0 := blk_free h1 0; have y1 := xb_cell h2 1; have z1 := xb_cell h1 1; have fy1 := blk_free h2 1; have fz1 := blk_free h1 1; have y2 := xb_cell h2 2; have z2 := xb_cell h1 2; have fy2 := blk_free h2 2; have fz2 := blk_free h1 2; have y3 := xb_cell h2 3; have z3 := xb_cell h1 3; have fy3 := blk_free h2 3; have fz3 := blk_free h1 3; have y4 := xb_cell h2 4; have z4 := xb_cell h1 4; have fy4 := blk_free h2 4; have fz4 := blk_free h1 4; simp only [List.getElem?_toArray, List.getElem?_cons_zero, List.getElem?_cons_succ] at y0 z0 y1 z1 y2 z2 y3 z3 y4 z4
        have H1 := Lib.hid h1; have H2 := Lib.hid h2
        clear hR5 hab5 hb h1 h2
        rw [← HN1.out]
        go_wp2
        refine hK.out _ _ trivial (fun hHeld => ?_)
        clear hK K
        try simp only [Act.put, List.setIfInBounds_toArray, List.set_cons_zero, List.set_cons_succ]
        refine wpAnyH_take (i := 6) (v := ?_) rfl (by kernel_rfl) (by kernel_rfl) (by kernel_rfl) (fun _ _ _ h => h) (Or.inl ⟨by rfl, ?_⟩) (by assumption) ?_
        rotate_left
        · intro w hSw
          go_simp
          try (with_reducible rfl)
        try simp only [Act.put, List.setIfInBounds_toArray, List.set_cons_zero, List.set_cons_succ]
        refine wpAnyH_ready (rs := [5]) (by kernel_rfl) (by simp) ?_
        refine AllReadyH.cons (o := _) rfl (fun K hK => ?_) ?_
        · go_simp
          go_at_call 17
          refine (HC2.out _ ?hb).mono ?_
          case hb => exact HB5.out
          rintro e w6 ⟨v6, rfl, hR6, hb⟩
          obtain ⟨A6, c6, rfl, -, -, hab6, -⟩ := Ses.R_slots hR6
          have HR6 := Lib.hid hR6; have HA6 := Lib.hid hab6; have HB6 := Lib.hid hb
          have h1 := (hb.block _ (xb_lt H1.out)).trans H1.out; have h2 := (hb.block _ (xb_lt H2.out)).trans H2.out
          clear y0 z0 fy0 fz0 y1 z1 fy1 fz1 y2 z2 fy2 fz2 y3 z3 fy3 fz3 y4 z4 fy4 fz4
          have y0 := xb_cell h2 0; have z0 := xb_cell h1 0; have fy0 := blk_free h2 0; have fz0 := blk_free h1 0; have y1 := xb_cell h2 1; have z1 := xb_cell h1 1; have fy1 := blk_free h2 1; have fz1 := blk_free h1 1; have y2 := xb_cell h2 2; have z2 := xb_cell h1 2; have fy2 := blk_free h2 2; have fz2 := blk_free h1 2; have y3 := xb_cell h2 3; have z3 := xb_cell h1 3; have fy3 := blk_free h2 3; have fz3 := blk_free h1 3; have y4 := xb_cell h2 4; have z4 := xb_cell h1 4; have fy4 := blk_free h2 4; have fz4 := blk_free h1 4; simp only [List.getElem?_toArray, List.getElem?_cons_zero, List.getElem?_cons_succ] at y0 z0 y1 z1 y2 z2 y3 z3 y4 z4
          have L1 := Lib.hid h1; have L2 := Lib.hid h2
          clear hR6 hab6 hb h1 h2
          go_wp2
          refine hK.out _ _ trivial (fun hHeld => ?_)
          clear hK K
          try simp only [Act.put, List.setIfInBounds_toArray, List.set_cons_zero, List.set_cons_succ]
          refine wpAnyH_ready (rs := [7]) (by kernel_rfl) (by simp) ?_
          refine AllReadyH.cons (o := _) rfl (fun K hK => ?_) ?_
          · go_simp
            refine hK.out _ _ trivial (fun hHeld => ?_)
            clear hK K
            try simp only [Act.put, List.setIfInBounds_toArray, List.set_cons_zero, List.set_cons_succ]
            refine wpAnyH_take (i := 8) (v := ?_) rfl (by kernel_rfl) (by kernel_rfl) (by kernel_rfl) (fun _ _ _ h => h) (Or.inl ⟨by rfl, ?_⟩) (by assumption) ?_
            rotate_left
            · intro w hSw
              go_simp
              try (with_reducible rfl)
            try simp only [Act.put, List.setIfInBounds_toArray, List.set_cons_zero, List.set_cons_succ]
            refine wpAnyH_ready (rs := [9]) (by kernel_rfl) (by simp) ?_
            refine AllReadyH.cons (o := _) rfl (fun K hK => ?_) ?_
            · go_simp
              refine hK.out _ _ trivial (fun hHeld => ?_)
              clear hK K
              try simp only [Act.put, List.setIfInBounds_toArray, List.set_cons_zero, List.set_cons_succ]
              refine wpAnyH_done (by kernel_rfl) ?_ _
              refine NoPanic.normal ?_
              go_wp2
              refine bodyPost_ret (results_cell_row rfl _ _ (w.heap.size + 1) 38 #[.bool true, .slice A5 n1 c5, .slice A6 d2.length c6, .int .i64 0, .string ⟨#[]⟩] (0, 0) _ rfl ?_ Tryd.underlying38 rfl (by kernel_rfl)) rfl ?_
              · exact Ses.got_block2 (by omega) L1.out _ _ _ _ _ _ _
              · have hz5 := HB5.out.size
                have hz6 := HB6.out.size
                have q5 : ∀ k, (Value.slice A5 d1.length c5).ownBlock = some k → k ≠ w.heap.size + 1 ∧ k ≠ w.heap.size + 1 + 1 := fun k hk => by
                  have hlt : w2.heap.size ≤ k := Kd.R_base HR5.out k hk
                  omega
                have q6 : ∀ k, (Value.slice A6 d2.length c6).ownBlock = some k → k ≠ w.heap.size + 1 ∧ k ≠ w.heap.size + 1 + 1 := fun k hk => by
                  have hlt : w5.heap.size ≤ k := Kd.R_base HR6.out k hk
                  omega
                have D5 : Ses.DataB w.heap.size d1 w6 (.slice A5 d1.length c5) := Kd.R_below (Kd.R_lower HR5.out (show w.heap.size ≤ w2.heap.size by omega)) HB6.out
                have D6 : Ses.DataB w.heap.size d2 w6 (.slice A6 d2.length c6) := Kd.R_lower HR6.out (by omega)
                rw [HN1.out]
                refine ⟨A5, _, c5, A6, _, c6, rfl, ?_, ?_, ?_, ?_⟩
                · iterate 5 refine Ses.DataB_far ?_ (fun k hk => (q5 k hk).1) _
                  iterate 2 refine Ses.DataB_far ?_ (fun k hk => (q5 k hk).2) _
                  exact D5
                · iterate 5 refine Ses.DataB_far ?_ (fun k hk => (q6 k hk).1) _
                  iterate 2 refine Ses.DataB_far ?_ (fun k hk => (q6 k hk).2) _
                  exact D6
                · iterate 7 refine Ses.RS.far ?_ _ (by omega) (by omega)
                  exact (hXr.out.bl HB5.out).bl HB6.out
                · iterate 7 refine grown_far ?_ _ (by omega)
                  exact grown_bl (grown_bl hXg.out HB5.out) HB6.out
            exact AllReadyH.nil
          exact AllReadyH.nil
        exact AllReadyH.nil
      exact AllReadyH.nil
    exact AllReadyH.nil
  exact AllReadyH.nil
end Go.Proofs.YtdnahdddkagfhaaDoor.X
