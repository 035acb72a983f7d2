/- impl.got: a step of a reader that gives bytes. -/
import Derived.Test.YtdnahdddkagfhaaDoorGs
namespace Go.Proofs.YtdnahdddkagfhaaDoor.X
open Go.RowKit Go.Proofs.YtdnahdddkagfhaaDoorW.PrintWords Go.Proofs.YtdnahdddkagfhaaDoorW.PrintMore
attribute [local go_sem] setCell_drewN alloc_drewN
set_option linter.unusedVariables false
set_option linter.unusedSimpArgs false
theorem Ses.got_block2 {w1 : World} {n1 n2 : Nat} {a0 a1 a2 a3 a4 : Value} {T : TypeId} (hne : n1 ≠ n2) (k1 : w1.heap[n1]? = some (.cells #[a0, a1, a2, a3, a4] T (0, 0))) (u1 u2 v0 v1 v2 v3 v4 : Value) :
    (((((((w1.setCell ⟨n2, 1, none⟩ u1).setCell ⟨n2, 2, none⟩ u2).setCell ⟨n1, 0, none⟩ v0).setCell ⟨n1, 1, none⟩ v1).setCell ⟨n1, 2, none⟩ v2).setCell ⟨n1, 3, none⟩ v3).setCell ⟨n1, 4, none⟩ v4).heap[n1]? = some (.cells #[v0, v1, v2, v3, v4] T (0, 0)) := by
  have h0 := (blk_set_other (u := u2) (i := 2) hne).trans ((blk_set_other (u := u1) (i := 1) hne).trans k1)
  have h5 := xb_set (xb_set (xb_set (xb_set (xb_set h0 0 v0) 1 v1) 2 v2) 3 v3) 4 v4
  simpa using h5
/-- A value is a row of bytes. -/
def Ses.Data (xs : List Int) (W : World) (d : Value) : Prop := ∃ base, Kd.R (Kd.int .u8) 5 W base (fun _ => True) d xs
theorem Ses.Data_below (xs : List Int) (W W' : World) (d : Value) (h : Ses.Data xs W d) (k : Below W.heap.size W W') : Ses.Data xs W' d := by
  obtain ⟨base, h⟩ := h
  exact ⟨base, Kd.R_below h k⟩
set_option maxHeartbeats 4000000 in
set_option maxRecDepth 100000 in
theorem got_clr_short (w : World) (b g c : Nat) (l : List Int) (idx k : Nat) (big : Bool) (chunk : Int) (h : Ses.RS w b g c l idx big chunk) (hk0 : 0 < k) (hk1 : k ≤ 252) (hx : l.getD idx 0 = (k : Int)) (hk : idx + 1 + k ≤ l.length) :
    Calls Tryd.prog 48 #[.pointer (some ⟨b, 0, none⟩), .agg #[.int .i64 2, .int .i64 0, .bool false, .bool false]] w fun e w' => ∃ A n cc, e = .returned (.agg #[.bool true, .slice A n cc, .slice none 0 0, .int .i64 0, .string ⟨#[]⟩]) ∧ Ses.Data ((l.drop (idx + 1)).take k) w' (.slice A n cc) ∧ Ses.RS w' b g c l (idx + 1 + k) big chunk ∧ w.grownBy w' (some b) := by
  have hb := xb_lt h.blk
  have hg0 := h.lt
  have HR := Lib.hid (fun W (hw : Ses.RS W b g c l idx big chunk) hbW => getClr_short W b g c l idx k big chunk hw hk0 hk1 hx hk hbW)
  have hlk : ((l.drop (idx + 1)).take k).length = k := by rw [List.length_take, List.length_drop]; omega
  have HCn := Lib.hid (fun n c W => Tryd.bytes_Clone_nil n c W)
  have HH := Lib.hid (h.bl (Ses.W3_bl w 2 0 false false))
  have hz3 := Ses.W3_size w 2 0 false false
  have HLk := Lib.hid hlk
  generalize (l.drop (idx + 1)).take k = xs at *
  unfold Ses.W3 at HH hz3
  clear h hx hk hlk
  go_enter Tryd.func48, Tryd.ntmps48
  go_wp2_with (go_at_call 70; (with_reducible refine (HR.out _ HH.out (by omega)).mono ?_); rintro e w1 ⟨gd, cd, rfl, hgd, hgl, hcd, hcl, hrs, hg⟩; have HRS := Lib.hid hrs; have HG := Lib.hid (Ses.W3_grown (kind := 2) (size := 0) (big := false) (comp := false) hb hg); have HCl := Lib.hid hcl; have hk3 := Ses.G3_of (kind := 2) (size := 0) (big := false) (comp := false) hb hg; have x0 := xb_cell hk3.k0 0; have x1 := xb_cell hk3.k0 1; have x2 := xb_cell hk3.k0 2; have x3 := xb_cell hk3.k0 3; have y0 := xb_cell hk3.k2 0; have z0 := xb_cell hk3.k1 0; have fy0 := blk_free hk3.k2 0; have fz0 := blk_free hk3.k1 0; have y1 := xb_cell hk3.k2 1; have z1 := xb_cell hk3.k1 1; have fy1 := blk_free hk3.k2 1; have fz1 := blk_free hk3.k1 1; have y2 := xb_cell hk3.k2 2; have z2 := xb_cell hk3.k1 2; have fy2 := blk_free hk3.k2 2; have fz2 := blk_free hk3.k1 2; have y3 := xb_cell hk3.k2 3; have z3 := xb_cell hk3.k1 3; have fy3 := blk_free hk3.k2 3; have fz3 := blk_free hk3.k1 3; have y4 := xb_cell hk3.k2 4; have z4 := xb_cell hk3.k1 4; have fy4 := blk_free hk3.k2 4; have fz4 := blk_free hk3.k1 4; simp only [List.getElem?_toArray, List.getElem?_cons_zero, List.getElem?_cons_succ] at y0 z0 y1 z1 y2 z2 y3 z3 y4 z4; have K0 := Lib.hid hk3; simp only [List.getElem?_toArray, List.getElem?_cons_zero, List.getElem?_cons_succ] at x0 x1 x2 x3; clear hrs hg hk3 hcl)
  rw [hz3] at hgd
  have hX1 : Hid (((w1.setCell ⟨w.heap.size + 1 + 1, 1, none⟩ (.slice (some ⟨gd, 0, none⟩) k cd)).setCell ⟨w.heap.size + 1 + 1, 0, none⟩ (.bool true)).heap[w.heap.size + 1]? = some (.cells #[.bool false, .slice none 0 0, .slice none 0 0, .int .i64 0, .string ⟨#[]⟩] 38 (0, 0))) := Lib.hid ((blk_set_other (by omega)).trans ((blk_set_other (by omega)).trans K0.out.k1))
  have hX2 : Hid (((w1.setCell ⟨w.heap.size + 1 + 1, 1, none⟩ (.slice (some ⟨gd, 0, none⟩) k cd)).setCell ⟨w.heap.size + 1 + 1, 0, none⟩ (.bool true)).heap[w.heap.size + 1 + 1]? = some (.cells #[.bool true, .slice (some ⟨gd, 0, none⟩) k cd, .slice none 0 0, .int .i64 0, .string ⟨#[]⟩] 38 (0, 0))) := Lib.hid ((xb_set (xb_set K0.out.k2 1 _) 0 _).trans (by simp))
  have hXr : Hid (Ses.RS ((w1.setCell ⟨w.heap.size + 1 + 1, 1, none⟩ (.slice (some ⟨gd, 0, none⟩) k cd)).setCell ⟨w.heap.size + 1 + 1, 0, none⟩ (.bool true)) b g c l (idx + 1 + k) big chunk) := Lib.hid ((HRS.out.far _ (by omega) (by omega)).far _ (by omega) (by omega))
  have hXg : Hid (w.grownBy ((w1.setCell ⟨w.heap.size + 1 + 1, 1, none⟩ (.slice (some ⟨gd, 0, none⟩) k cd)).setCell ⟨w.heap.size + 1 + 1, 0, none⟩ (.bool true)) (some b)) := Lib.hid (grown_far (grown_far HG.out _ (by omega)) _ (by omega))
  have hXc : Hid (∀ i : Nat, i < k → ((w1.setCell ⟨w.heap.size + 1 + 1, 1, none⟩ (.slice (some ⟨gd, 0, none⟩) k cd)).setCell ⟨w.heap.size + 1 + 1, 0, none⟩ (.bool true)).cell? ⟨gd, i, none⟩ = some (.int .u8 (xs.getD i 0))) := Lib.hid (fun i hi => (set_far (by omega)).trans ((set_far (by omega)).trans (HCl.out i hi)))
  clear y0 z0 fy0 fz0 y1 z1 fy1 fz1 y2 z2 fy2 fz2 y3 z3 fy3 fz3 y4 z4 fy4 fz4 x0 x1 x2 x3
  generalize (w1.setCell ⟨w.heap.size + 1 + 1, 1, none⟩ (.slice (some ⟨gd, 0, none⟩) k cd)).setCell ⟨w.heap.size + 1 + 1, 0, none⟩ (.bool true) = w2 at *
  have hn1 := xb_lt hX1.out
  have hn2 := xb_lt hX2.out
  have K1 := hX1
  have K2 := hX2
  have y0 := xb_cell K2.out 0; have z0 := xb_cell K1.out 0; have fy0 := blk_free K2.out 0; have fz0 := blk_free K1.out 0; have y1 := xb_cell K2.out 1; have z1 := xb_cell K1.out 1; have fy1 := blk_free K2.out 1; have fz1 := blk_free K1.out 1; have y2 := xb_cell K2.out 2; have z2 := xb_cell K1.out 2; have fy2 := blk_free K2.out 2; have fz2 := blk_free K1.out 2; have y3 := xb_cell K2.out 3; have z3 := xb_cell K1.out 3; have fy3 := blk_free K2.out 3; have fz3 := blk_free K1.out 3; have y4 := xb_cell K2.out 4; have z4 := xb_cell K1.out 4; have fy4 := blk_free K2.out 4; have fz4 := blk_free K1.out 4; simp only [List.getElem?_toArray, List.getElem?_cons_zero, List.getElem?_cons_succ] at y0 z0 y1 z1 y2 z2 y3 z3 y4 z4
  have HCd := Lib.hid (Tryd.bytes_Clone_at ⟨gd, 0, none⟩ k cd xs w2.drew HLk.out (by omega) (fun i hi => by
    have := hXc.out i hi
    unfold Addr.add
    split
    · rename_i hz
      have hz' : i = 0 := by simpa using hz
      subst hz'
      exact this
    · simpa using this))
  refine wp_region_noPanic ?_
  refine wp_region_held_drew (S := fun _ => True) (by kernel_rfl) trivial (fun hHeld => ?_)
  refine wpAnyH_take (i := 0) (v := ?_) rfl (by kernel_rfl) (by kernel_rfl) (by kernel_rfl) (fun _ _ _ h => h) (Or.inl ⟨by rfl, ?_⟩) (by assumption) ?_
  rotate_left
  · intro w hSw
    go_simp
    try (with_reducible rfl)
  try simp only [Act.put, List.setIfInBounds_toArray, List.set_cons_zero, List.set_cons_succ]
  refine wpAnyH_take (i := 3) (v := ?_) rfl (by kernel_rfl) (by kernel_rfl) (by kernel_rfl) (fun _ _ _ h => h) (Or.inl ⟨by rfl, ?_⟩) (by assumption) ?_
  rotate_left
  · intro w hSw
    go_simp
    try (with_reducible rfl)
  try simp only [Act.put, List.setIfInBounds_toArray, List.set_cons_zero, List.set_cons_succ]
  refine wpAnyH_ready (rs := [1, 4]) (by kernel_rfl) (by simp) ?_
  refine AllReadyH.cons (o := _) rfl (fun K hK => ?_) ?_
  · go_simp
    refine hK.out _ _ trivial (fun hHeld => ?_)
    clear hK K
    try simp only [Act.put, List.setIfInBounds_toArray, List.set_cons_zero, List.set_cons_succ]
    refine wpAnyH_ready (rs := [2, 4]) (by kernel_rfl) (by simp) ?_
    refine AllReadyH.cons (o := _) rfl (fun K hK => ?_) ?_
    · go_simp
      go_at_call 17
      refine HCd.out.mono ?_
      rintro e w5 ⟨v5, rfl, hown, hne, hb⟩
      obtain ⟨g5, c5, rfl, hbg5, hgl5, hnc5, -, -⟩ := Ses.row_form hown hne
      have HO := Lib.hid hown; have HB5 := Lib.hid hb
      have h1 := (hb.block _ hn1).trans K1.out; have h2 := (hb.block _ hn2).trans K2.out
      clear y0 z0 fy0 fz0 y1 z1 fy1 fz1 y2 z2 fy2 fz2 y3 z3 fy3 fz3 y4 z4 fy4 fz4
      have y0 := xb_cell h2 0; have z0 := xb_cell h1 0; have fy0 := blk_free h2 0; have fz0 := blk_free h1 0; have y1 := xb_cell h2 1; have z1 := xb_cell h1 1; have fy1 := blk_free h2 1; have fz1 := blk_free h1 1; have y2 := xb_cell h2 2; have z2 := xb_cell h1 2; have fy2 := blk_free h2 2; have fz2 := blk_free h1 2; have y3 := xb_cell h2 3; have z3 := xb_cell h1 3; have fy3 := blk_free h2 3; have fz3 := blk_free h1 3; have y4 := xb_cell h2 4; have z4 := xb_cell h1 4; have fy4 := blk_free h2 4; have fz4 := blk_free h1 4; simp only [List.getElem?_toArray, List.getElem?_cons_zero, List.getElem?_cons_succ] at y0 z0 y1 z1 y2 z2 y3 z3 y4 z4
      have H1 := Lib.hid h1; have H2 := Lib.hid h2
      clear hown hne hb h1 h2
      go_wp2
      refine hK.out _ _ trivial (fun hHeld => ?_)
      clear hK K
      try simp only [Act.put, List.setIfInBounds_toArray, List.set_cons_zero, List.set_cons_succ]
      refine wpAnyH_ready (rs := [4]) (by kernel_rfl) (by simp) ?_
      refine AllReadyH.cons (o := _) rfl (fun K hK => ?_) ?_
      · go_simp
        refine hK.out _ _ trivial (fun hHeld => ?_)
        clear hK K
        try simp only [Act.put, List.setIfInBounds_toArray, List.set_cons_zero, List.set_cons_succ]
        refine wpAnyH_take (i := 6) (v := ?_) rfl (by kernel_rfl) (by kernel_rfl) (by kernel_rfl) (fun _ _ _ h => h) (Or.inl ⟨by rfl, ?_⟩) (by assumption) ?_
        rotate_left
        · intro w hSw
          go_simp
          try (with_reducible rfl)
        try simp only [Act.put, List.setIfInBounds_toArray, List.set_cons_zero, List.set_cons_succ]
        refine wpAnyH_ready (rs := [5]) (by kernel_rfl) (by simp) ?_
        refine AllReadyH.cons (o := _) rfl (fun K hK => ?_) ?_
        · go_simp
          go_at_call 17
          refine (HCn.out _ _ _).mono ?_
          rintro e w6 ⟨rfl, rfl⟩
          go_wp2
          refine hK.out _ _ trivial (fun hHeld => ?_)
          clear hK K
          try simp only [Act.put, List.setIfInBounds_toArray, List.set_cons_zero, List.set_cons_succ]
          refine wpAnyH_ready (rs := [7]) (by kernel_rfl) (by simp) ?_
          refine AllReadyH.cons (o := _) rfl (fun K hK => ?_) ?_
          · go_simp
            refine hK.out _ _ trivial (fun hHeld => ?_)
            clear hK K
            try simp only [Act.put, List.setIfInBounds_toArray, List.set_cons_zero, List.set_cons_succ]
            refine wpAnyH_take (i := 8) (v := ?_) rfl (by kernel_rfl) (by kernel_rfl) (by kernel_rfl) (fun _ _ _ h => h) (Or.inl ⟨by rfl, ?_⟩) (by assumption) ?_
            rotate_left
            · intro w hSw
              go_simp
              try (with_reducible rfl)
            try simp only [Act.put, List.setIfInBounds_toArray, List.set_cons_zero, List.set_cons_succ]
            refine wpAnyH_ready (rs := [9]) (by kernel_rfl) (by simp) ?_
            refine AllReadyH.cons (o := _) rfl (fun K hK => ?_) ?_
            · go_simp
              refine hK.out _ _ trivial (fun hHeld => ?_)
              clear hK K
              try simp only [Act.put, List.setIfInBounds_toArray, List.set_cons_zero, List.set_cons_succ]
              refine wpAnyH_done (by kernel_rfl) ?_ _
              refine NoPanic.normal ?_
              go_wp2
              refine bodyPost_ret (results_cell_row rfl _ _ (w.heap.size + 1) 38 #[.bool true, .slice (some ⟨g5, 0, none⟩) k c5, .slice none 0 0, .int .i64 0, .string ⟨#[]⟩] (0, 0) _ rfl ?_ Tryd.underlying38 rfl (by kernel_rfl)) rfl ?_
              · exact Ses.got_block2 (by omega) H1.out _ _ _ _ _ _ _
              · have hB : Below w2.heap.size w2 w6 := (below_drew (Below.refl _ _)).trans (HB5.out.mono (Nat.le_refl _))
                refine ⟨_, _, _, rfl, ⟨0, ?_⟩, ?_, ?_⟩
                · have hr := Kd.R_reok (ok := fun j => j ≠ w.heap.size + 1 ∧ j ≠ w.heap.size + 1 + 1) rfl (Ses.R_clone HO.out HLk.out 0 (Nat.zero_le _)) (fun j hj => by
                    have hj' : g5 = j := Option.some.inj hj
                    subst hj'
                    have : w2.heap.size ≤ g5 := hbg5
                    omega)
                  refine Kd.R_mono ?_ (fun _ _ => trivial) (ok := fun j => j ≠ w.heap.size + 1 ∧ j ≠ w.heap.size + 1 + 1)
                  iterate 5 refine Kd.R_far ?_ (fun j hj => hj.1) _
                  iterate 2 refine Kd.R_far ?_ (fun j hj => hj.2) _
                  exact hr
                · iterate 7 refine Ses.RS.far ?_ _ (by omega) (by omega)
                  exact hXr.out.bl hB
                · iterate 7 refine grown_far ?_ _ (by omega)
                  exact grown_bl hXg.out hB
            exact AllReadyH.nil
          exact AllReadyH.nil
        exact AllReadyH.nil
      exact AllReadyH.nil
    refine AllReadyH.cons (o := _) rfl (fun K hK => ?_) ?_
    · go_simp
      refine hK.out _ _ trivial (fun hHeld => ?_)
      clear hK K
      try simp only [Act.put, List.setIfInBounds_toArray, List.set_cons_zero, List.set_cons_succ]
      refine wpAnyH_ready (rs := [2]) (by kernel_rfl) (by simp) ?_
      refine AllReadyH.cons (o := _) rfl (fun K hK => ?_) ?_
      · go_simp
        go_at_call 17
        refine HCd.out.mono ?_
        rintro e w5 ⟨v5, rfl, hown, hne, hb⟩
        obtain ⟨g5, c5, rfl, hbg5, hgl5, hnc5, -, -⟩ := Ses.row_form hown hne
        have HO := Lib.hid hown; have HB5 := Lib.hid hb
        have h1 := (hb.block _ hn1).trans K1.out; have h2 := (hb.block _ hn2).trans K2.out
        clear y0 z0 fy0 fz0 y1 z1 fy1 fz1 y2 z2 fy2 fz2 y3 z3 fy3 fz3 y4 z4 fy4 fz4
        have y0 := xb_cell h2 0; have z0 := xb_cell h1 0; have fy0 := blk_free h2 0; have fz0 := blk_free h1 0; have y1 := xb_cell h2 1; have z1 := xb_cell h1 1; have fy1 := blk_free h2 1; have fz1 := blk_free h1 1; have y2 := xb_cell h2 2; have z2 := xb_cell h1 2; have fy2 := blk_free h2 2; have fz2 := blk_free h1 2; have y3 := xb_cell h2 3; have z3 := xb_cell h1 3; have fy3 := blk_free h2 3; have fz3 := blk_free h1 3; have y4 := xb_cell h2 4; have z4 := xb_cell h1 4; have fy4 := blk_free h2 4; have fz4 := blk_free h1 4; simp only [List.getElem?_toArray, List.getElem?_cons_zero, List.getElem?_cons_succ] at y0 z0 y1 z1 y2 z2 y3 z3 y4 z4
        have H1 := Lib.hid h1; have H2 := Lib.hid h2
        clear hown hne hb h1 h2
        go_wp2
        refine hK.out _ _ trivial (fun hHeld => ?_)
        clear hK K
        try simp only [Act.put, List.setIfInBounds_toArray, List.set_cons_zero, List.set_cons_succ]
        refine wpAnyH_take (i := 6) (v := ?_) rfl (by kernel_rfl) (by kernel_rfl) (by kernel_rfl) (fun _ _ _ h => h) (Or.inl ⟨by rfl, ?_⟩) (by assumption) ?_
        rotate_left
        · intro w hSw
          go_simp
          try (with_reducible rfl)
        try simp only [Act.put, List.setIfInBounds_toArray, List.set_cons_zero, List.set_cons_succ]
        refine wpAnyH_ready (rs := [5]) (by kernel_rfl) (by simp) ?_
        refine AllReadyH.cons (o := _) rfl (fun K hK => ?_) ?_
        · go_simp
          go_at_call 17
          refine (HCn.out _ _ _).mono ?_
          rintro e w6 ⟨rfl, rfl⟩
          go_wp2
          refine hK.out _ _ trivial (fun hHeld => ?_)
          clear hK K
          try simp only [Act.put, List.setIfInBounds_toArray, List.set_cons_zero, List.set_cons_succ]
          refine wpAnyH_ready (rs := [7]) (by kernel_rfl) (by simp) ?_
          refine AllReadyH.cons (o := _) rfl (fun K hK => ?_) ?_
          · go_simp
            refine hK.out _ _ trivial (fun hHeld => ?_)
            clear hK K
            try simp only [Act.put, List.setIfInBounds_toArray, List.set_cons_zero, List.set_cons_succ]
            refine wpAnyH_take (i := 8) (v := ?_) rfl (by kernel_rfl) (by kernel_rfl) (by kernel_rfl) (fun _ _ _ h => h) (Or.inl ⟨by rfl, ?_⟩) (by assumption) ?_
            rotate_left
            · intro w hSw
              go_simp
              try (with_reducible rfl)
            try simp only [Act.put, List.setIfInBounds_toArray, List.set_cons_zero, List.set_cons_succ]
            refine wpAnyH_ready (rs := [9]) (by kernel_rfl) (by simp) ?_
            refine AllReadyH.cons (o := _) rfl (fun K hK => ?_) ?_
            · go_simp
              refine hK.out _ _ trivial (fun hHeld => ?_)
              clear hK K
              try simp only [Act.put, List.setIfInBounds_toArray, List.set_cons_zero, List.set_cons_succ]
              refine wpAnyH_done (by kernel_rfl) ?_ _
              refine NoPanic.normal ?_
              go_wp2
              refine bodyPost_ret (results_cell_row rfl _ _ (w.heap.size + 1) 38 #[.bool true, .slice (some ⟨g5, 0, none⟩) k c5, .slice none 0 0, .int .i64 0, .string ⟨#[]⟩] (0, 0) _ rfl ?_ Tryd.underlying38 rfl (by kernel_rfl)) rfl ?_
              · exact Ses.got_block2 (by omega) H1.out _ _ _ _ _ _ _
              · have hB : Below w2.heap.size w2 w6 := (below_drew (Below.refl _ _)).trans (HB5.out.mono (Nat.le_refl _))
                refine ⟨_, _, _, rfl, ⟨0, ?_⟩, ?_, ?_⟩
                · have hr := Kd.R_reok (ok := fun j => j ≠ w.heap.size + 1 ∧ j ≠ w.heap.size + 1 + 1) rfl (Ses.R_clone HO.out HLk.out 0 (Nat.zero_le _)) (fun j hj => by
                    have hj' : g5 = j := Option.some.inj hj
                    subst hj'
                    have : w2.heap.size ≤ g5 := hbg5
                    omega)
                  refine Kd.R_mono ?_ (fun _ _ => trivial) (ok := fun j => j ≠ w.heap.size + 1 ∧ j ≠ w.heap.size + 1 + 1)
                  iterate 5 refine Kd.R_far ?_ (fun j hj => hj.1) _
                  iterate 2 refine Kd.R_far ?_ (fun j hj => hj.2) _
                  exact hr
                · iterate 7 refine Ses.RS.far ?_ _ (by omega) (by omega)
                  exact hXr.out.bl hB
                · iterate 7 refine grown_far ?_ _ (by omega)
                  exact grown_bl hXg.out hB
            exact AllReadyH.nil
          exact AllReadyH.nil
        exact AllReadyH.nil
      exact AllReadyH.nil
    exact AllReadyH.nil
  refine AllReadyH.cons (o := _) rfl (fun K hK => ?_) ?_
  · go_simp
    refine hK.out _ _ trivial (fun hHeld => ?_)
    clear hK K
    try simp only [Act.put, List.setIfInBounds_toArray, List.set_cons_zero, List.set_cons_succ]
    refine wpAnyH_ready (rs := [1]) (by kernel_rfl) (by simp) ?_
    refine AllReadyH.cons (o := _) rfl (fun K hK => ?_) ?_
    · go_simp
      refine hK.out _ _ trivial (fun hHeld => ?_)
      clear hK K
      try simp only [Act.put, List.setIfInBounds_toArray, List.set_cons_zero, List.set_cons_succ]
      refine wpAnyH_ready (rs := [2]) (by kernel_rfl) (by simp) ?_
      refine AllReadyH.cons (o := _) rfl (fun K hK => ?_) ?_
      · go_simp
        go_at_call 17
        refine HCd.out.mono ?_
        rintro e w5 ⟨v5, rfl, hown, hne, hb⟩
        obtain ⟨g5, c5, rfl, hbg5, hgl5, hnc5, -, -⟩ := Ses.row_form hown hne
        have HO := Lib.hid hown; have HB5 := Lib.hid hb
        have h1 := (hb.block _ hn1).trans K1.out; have h2 := (hb.block _ hn2).trans K2.out
        clear y0 z0 fy0 fz0 y1 z1 fy1 fz1 y2 z2 fy2 fz2 y3 z3 fy3 fz3 y4 z4 fy4 fz4
        have y0 := xb_cell h2 0; have z0 := xb_cell h1 0; have fy0 := blk_free h2 0; have fz0 := blk_free h1 0; have y1 := xb_cell h2 1; have z1 := xb_cell h1 1; have fy1 := blk_free h2 1; have fz1 := blk_free h1 1; have y2 := xb_cell h2 2; have z2 := xb_cell h1 2; have fy2 := blk_free h2 2; have fz2 := blk_free h1 2; have y3 := xb_cell h2 3; have z3 := xb_cell h1 3; have fy3 := blk_free h2 3; have fz3 := blk_free h1 3; have y4 := xb_cell h2 4; have z4 := xb_cell h1 4; have fy4 := blk_free h2 4; have fz4 := blk_free h1 4; simp only [List.getElem?_toArray, List.getElem?_cons_zero, List.getElem?_cons_succ] at y0 z0 y1 z1 y2 z2 y3 z3 y4 z4
        have H1 := Lib.hid h1; have H2 := Lib.hid h2
        clear hown hne hb h1 h2
        go_wp2
        refine hK.out _ _ trivial (fun hHeld => ?_)
        clear hK K
        try simp only [Act.put, List.setIfInBounds_toArray, List.set_cons_zero, List.set_cons_succ]
        refine wpAnyH_take (i := 6) (v := ?_) rfl (by kernel_rfl) (by kernel_rfl) (by kernel_rfl) (fun _ _ _ h => h) (Or.inl ⟨by rfl, ?_⟩) (by assumption) ?_
        rotate_left
        · intro w hSw
          go_simp
          try (with_reducible rfl)
        try simp only [Act.put, List.setIfInBounds_toArray, List.set_cons_zero, List.set_cons_succ]
        refine wpAnyH_ready (rs := [5]) (by kernel_rfl) (by simp) ?_
        refine AllReadyH.cons (o := _) rfl (fun K hK => ?_) ?_
        · go_simp
          go_at_call 17
          refine (HCn.out _ _ _).mono ?_
          rintro e w6 ⟨rfl, rfl⟩
          go_wp2
          refine hK.out _ _ trivial (fun hHeld => ?_)
          clear hK K
          try simp only [Act.put, List.setIfInBounds_toArray, List.set_cons_zero, List.set_cons_succ]
          refine wpAnyH_ready (rs := [7]) (by kernel_rfl) (by simp) ?_
          refine AllReadyH.cons (o := _) rfl (fun K hK => ?_) ?_
          · go_simp
            refine hK.out _ _ trivial (fun hHeld => ?_)
            clear hK K
            try simp only [Act.put, List.setIfInBounds_toArray, List.set_cons_zero, List.set_cons_succ]
            refine wpAnyH_take (i := 8) (v := ?_) rfl (by kernel_rfl) (by kernel_rfl) (by kernel_rfl) (fun _ _ _ h => h) (Or.inl ⟨by rfl, ?_⟩) (by assumption) ?_
            rotate_left
            · intro w hSw
              go_simp
              try (with_reducible rfl)
            try simp only [Act.put, List.setIfInBounds_toArray, List.set_cons_zero, List.set_cons_succ]
            refine wpAnyH_ready (rs := [9]) (by kernel_rfl) (by simp) ?_
            refine AllReadyH.cons (o := _) rfl (fun K hK => ?_) ?_
            · go_simp
              refine hK.out _ _ trivial (fun hHeld => ?_)
              clear hK K
              try simp only [Act.put, List.setIfInBounds_toArray, List.set_cons_zero, List.set_cons_succ]
              refine wpAnyH_done (by kernel_rfl) ?_ _
              refine NoPanic.normal ?_
              go_wp2
              refine bodyPost_ret (results_cell_row rfl _ _ (w.heap.size + 1) 38 #[.bool true, .slice (some ⟨g5, 0, none⟩) k c5, .slice none 0 0, .int .i64 0, .string ⟨#[]⟩] (0, 0) _ rfl ?_ Tryd.underlying38 rfl (by kernel_rfl)) rfl ?_
              · exact Ses.got_block2 (by omega) H1.out _ _ _ _ _ _ _
              · have hB : Below w2.heap.size w2 w6 := (below_drew (Below.refl _ _)).trans (HB5.out.mono (Nat.le_refl _))
                refine ⟨_, _, _, rfl, ⟨0, ?_⟩, ?_, ?_⟩
                · have hr := Kd.R_reok (ok := fun j => j ≠ w.heap.size + 1 ∧ j ≠ w.heap.size + 1 + 1) rfl (Ses.R_clone HO.out HLk.out 0 (Nat.zero_le _)) (fun j hj => by
                    have hj' : g5 = j := Option.some.inj hj
                    subst hj'
                    have : w2.heap.size ≤ g5 := hbg5
                    omega)
                  refine Kd.R_mono ?_ (fun _ _ => trivial) (ok := fun j => j ≠ w.heap.size + 1 ∧ j ≠ w.heap.size + 1 + 1)
                  iterate 5 refine Kd.R_far ?_ (fun j hj => hj.1) _
                  iterate 2 refine Kd.R_far ?_ (fun j hj => hj.2) _
                  exact hr
                · iterate 7 refine Ses.RS.far ?_ _ (by omega) (by omega)
                  exact hXr.out.bl hB
                · iterate 7 refine grown_far ?_ _ (by omega)
                  exact grown_bl hXg.out hB
            exact AllReadyH.nil
          exact AllReadyH.nil
        exact AllReadyH.nil
      exact AllReadyH.nil
    exact AllReadyH.nil
  exact AllReadyH.nil
end Go.Proofs.YtdnahdddkagfhaaDoor.X
