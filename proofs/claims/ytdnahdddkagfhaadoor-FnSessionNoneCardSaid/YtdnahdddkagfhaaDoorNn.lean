/- The law FnSessionNone: the bytes 0, 253 and 255 are no CLR and no fixed one. -/
import Derived.Test.YtdnahdddkagfhaaDoorLv
namespace Go.Proofs.YtdnahdddkagfhaaDoor.X
open Go.RowKit Go.Proofs.YtdnahdddkagfhaaDoorW.PrintWords Go.Proofs.YtdnahdddkagfhaaDoorW.PrintLast Go.Proofs.YtdnahdddkagfhaaDoorW.PrintMore
attribute [local go_sem] setCell_drewN alloc_drewN
set_option linter.unusedVariables false
set_option linter.unusedSimpArgs false
theorem Ses.add_cell {w : World} {g o i : Nat} {v : Value} (h : w.cell? ⟨g, o + i, none⟩ = some v) : w.cell? ((⟨g, o, none⟩ : Addr).add i) = some v := by
  unfold Addr.add
  split
  · rename_i hz
    have hz' : i = 0 := by simpa using hz
    subst hz'
    exact h
  · exact h
theorem Ses.lit_row {w : World} {b base : Nat} {x : Int} (h : w.heap[b]? = some (.cells #[.int .u8 x] 5 (0, 0))) (hb : base ≤ b) : Kd.R (Kd.int .u8) 5 w base (fun _ => True) (.slice (some ⟨b, 0, none⟩) 1 1) [x] :=
  Kd.R_of_own (enc := Value.int .u8) (h1 := fun _ => rfl) ⟨rfl, .inr ⟨b, 1, #[.int .u8 x], rfl, hb, h, Nat.le_refl _, by unfold maxLen; omega, rfl, rfl⟩⟩ (fun _ _ => trivial)
def laws_FnSessionNone.f (k : Int) (fixed : Bool) (l : List Int) : Option Bool := if 0 ≤ k ∧ k ≤ 255 ∧ l.length ≤ 140737488351232 then some true else none
set_option maxHeartbeats 16000000 in
set_option maxRecDepth 100000 in
theorem laws_FnSessionNone.calls (k : Int) (fixed : Bool) (A0 : Option Addr) (c0 : Nat) (more : List Int) (r : Bool) (w : World) (hr0 : Kd.C (Kd.int .u8) w A0 more.length more) (hc0 : more.length ≤ c0) (h : laws_FnSessionNone.f k fixed more = some r) :
    Calls Tryd.prog 4 #[.int .u8 k, .bool fixed, .slice A0 more.length c0] w fun e w' => e = .returned (.bool r) ∧ Below w.heap.size w w' := by
  unfold laws_FnSessionNone.f at h
  split at h
  · rename_i hsz
    obtain ⟨z0, z1, z2⟩ := hsz
    obtain rfl := Option.some.inj h
    clear h
    have HR := Lib.hid hr0
    clear hr0
    have inf5 : (Tryd.prog.info? 5).map (fun i => (i.zero, i.size, i.bytes)) = some (some (.int .u8 0), 1, 1) := by kernel_rfl
    by_cases g0 : (more.length : Int) > 2147483647
    · have t0 : decide ((more.length : Int) > 2147483647) = true := decide_eq_true g0
      clear g0
      go_enter Tryd.func4, Tryd.ntmps4
      go_wp2
      go_ret
      exact ⟨rfl, Below.refl _ _⟩
    have t0 : decide ((more.length : Int) > 2147483647) = false := decide_eq_false g0
    by_cases g1 : (more.length : Int) > 1000
    · have t1 : decide ((more.length : Int) > 1000) = true := decide_eq_true g1
      clear g0 g1
      go_enter Tryd.func4, Tryd.ntmps4
      go_wp2_with (go_at_call 14; (with_reducible refine (sessionLive_calls _).mono ?_); rintro e w3 ⟨rfl, hb⟩)
      go_ret
      exact ⟨rfl, hb⟩
    have t1 : decide ((more.length : Int) > 1000) = false := decide_eq_false g1
    have hm : more.length ≤ 1000 := by omega
    have hef : bytes_Equal.f more more = some true := by simp [bytes_Equal.f]
    clear g0 g1
    have em : k.tmod 3 = k % 3 := Int.tmod_eq_emod_of_nonneg z0
    have p0 : (0 : Int) ≤ k.tmod 3 := by omega
    have p1 : k.tmod 3 < (3 : Int) := by omega
    obtain ⟨x, hx, hr⟩ : ∃ x : Int, (x = 0 ∨ x = 255 ∨ x = 253) ∧ (#[.int .u8 0, .int .u8 253, .int .u8 255] : Array Value)[(k.tmod 3).toNat]? = some (.int .u8 x) := by
      rcases (by omega : k.tmod 3 = 0 ∨ k.tmod 3 = 1 ∨ k.tmod 3 = 2) with e | e | e
      · exact ⟨0, .inl rfl, by rw [e]; rfl⟩
      · exact ⟨253, .inr (.inr rfl), by rw [e]; rfl⟩
      · exact ⟨255, .inr (.inl rfl), by rw [e]; rfl⟩
    clear em
    cases fixed
    · have HGet := Lib.hid (fun (W : World) (a : Addr) (cI g0 : Nat) hin s0 s1 s2 s3 => get_one (fun _ d => Value.slice none 0 0 = d) (fun _ _ _ h _ => h) 2 0 false false false (x :: more) 1 0 (by simp) (by simp only [List.length_cons]; omega) (by simp) (fun W2 b g c hrs => (got_clr_none W2 b g c (x :: more) 0 false 64 hrs (by simp) (by exact hx)).mono (fun e w' h => ⟨none, 0, 0, h.1, rfl, h.2.1, h.2.2⟩)) W a cI g0 hin s0 s1 s2 s3)
      go_enter Tryd.func4, Tryd.ntmps4
      go_wp2
      have hb2 := xb_new w (.cells #[.int .i64 2, .int .i64 0, .bool false, .bool false] 35)
      have st0 := xb_cell hb2 0
      have st1 := xb_cell hb2 1
      have st2 := xb_cell hb2 2
      have st3 := xb_cell hb2 3
      have HBw : Hid (Below w.heap.size w (w.alloc (.cells #[.int .i64 2, .int .i64 0, .bool false, .bool false] 35))) := Lib.hid (below_alloc (Below.refl _ _) _)
      have hw2 : w.heap.size < (w.alloc (.cells #[.int .i64 2, .int .i64 0, .bool false, .bool false] 35)).heap.size := xb_lt hb2
      simp only [List.getElem?_toArray, List.getElem?_cons_zero, List.getElem?_cons_succ] at st0 st1 st2 st3
      clear hb2
      generalize w.alloc (.cells #[.int .i64 2, .int .i64 0, .bool false, .bool false] 35) = w2 at *
      have HM := Lib.hid (Kd.C_below HR.out HBw.out)
      have HB : Hid (Below w2.heap.size w2 w2.drew) := Lib.hid (below_drew (Below.refl _ _))
      refine wp_region_noPanic ?_
      refine wp_region_held_drew (S := fun w' => w'.cell? ⟨w.heap.size, 0, none⟩ = some (.int .i64 2) ∧ w'.cell? ⟨w.heap.size, 1, none⟩ = some (.int .i64 0) ∧ w'.cell? ⟨w.heap.size, 2, none⟩ = some (.bool false) ∧ w'.cell? ⟨w.heap.size, 3, none⟩ = some (.bool false)) (by kernel_rfl) ⟨st0, st1, st2, st3⟩ (fun hHeld => ?_)
      generalize w2.drew = u0 at *
      refine wpAnyH_take (i := 1) (v := ?_) rfl (by kernel_rfl) (by kernel_rfl) (by kernel_rfl) (fun _ _ _ h => h) (Or.inl ⟨by rfl, ?_⟩) (by assumption) ?_
      rotate_left
      · intro w hSw
        obtain ⟨hs0, hs1, hs2, hs3⟩ := hSw
        go_simp
        try (with_reducible rfl)
      try simp only [Act.put, List.setIfInBounds_toArray, List.set_cons_zero, List.set_cons_succ]
      refine wpAnyH_take (i := 2) (v := ?_) rfl (by kernel_rfl) (by kernel_rfl) (by kernel_rfl) (fun _ _ _ h => h) (Or.inl ⟨by rfl, ?_⟩) (by assumption) ?_
      rotate_left
      · intro w hSw
        obtain ⟨hs0, hs1, hs2, hs3⟩ := hSw
        go_simp
        try (with_reducible rfl)
      try simp only [Act.put, List.setIfInBounds_toArray, List.set_cons_zero, List.set_cons_succ]
      refine wpAnyH_take (i := 6) (v := ?_) rfl (by kernel_rfl) (by kernel_rfl) (by kernel_rfl) (fun _ _ _ h => h) (Or.inl ⟨by rfl, ?_⟩) (by assumption) ?_
      rotate_left
      · intro w hSw
        obtain ⟨hs0, hs1, hs2, hs3⟩ := hSw
        go_simp
        try (with_reducible rfl)
      try simp only [Act.put, List.setIfInBounds_toArray, List.set_cons_zero, List.set_cons_succ]
      refine wpAnyH_take (i := 8) (v := ?_) rfl (by kernel_rfl) (by kernel_rfl) (by kernel_rfl) (fun _ _ _ h => h) (Or.inl ⟨by rfl, ?_⟩) (by assumption) ?_
      rotate_left
      · intro w hSw
        obtain ⟨hs0, hs1, hs2, hs3⟩ := hSw
        go_simp
        try (with_reducible rfl)
      try simp only [Act.put, List.setIfInBounds_toArray, List.set_cons_zero, List.set_cons_succ]
      refine wpAnyH_ready (rs := [0, 9]) (by kernel_rfl) (by simp) ?_
      refine AllReadyH.cons (o := _) rfl (fun K hK => ?_) ?_
      · go_simp
        refine hK.out _ _ ⟨cell_alloc _ hHeld.1, cell_alloc _ hHeld.2.1, cell_alloc _ hHeld.2.2.1, cell_alloc _ hHeld.2.2.2⟩ (fun hHeld => ?_)
        clear hK K
        try simp only [Act.put, List.setIfInBounds_toArray, List.set_cons_zero, List.set_cons_succ]
        have bA := xb_new (u0) (.cells #[.int .u8 0, .int .u8 253, .int .u8 255] 5)
        have ltbA : w2.heap.size ≤ (u0).heap.size := HB.out.size
        replace HB := Lib.hid (below_alloc HB.out (.cells #[.int .u8 0, .int .u8 253, .int .u8 255] 5))
        have nbA : (u0).heap.size < ((u0).alloc (.cells #[.int .u8 0, .int .u8 253, .int .u8 255] 5)).heap.size := by rw [World.size_alloc]; exact Nat.lt_succ_self _
        generalize (u0).alloc (.cells #[.int .u8 0, .int .u8 253, .int .u8 255] 5) = u1 at *
        have xA := (xb_cell bA (k.tmod 3).toNat).trans hr
        refine wpAnyH_take (i := 3) (v := ?_) rfl (by kernel_rfl) (by kernel_rfl) (by kernel_rfl) (fun _ _ _ h => h) (Or.inl ⟨by rfl, ?_⟩) (by assumption) ?_
        rotate_left
        · intro w hSw
          obtain ⟨hs0, hs1, hs2, hs3⟩ := hSw
          go_simp
          try (with_reducible rfl)
        try simp only [Act.put, List.setIfInBounds_toArray, List.set_cons_zero, List.set_cons_succ]
        refine wpAnyH_ready (rs := [4, 9]) (by kernel_rfl) (by simp) ?_
        refine AllReadyH.cons (o := _) rfl (fun K hK => ?_) ?_
        · go_simp
          refine hK.out _ _ hHeld (fun hHeld => ?_)
          clear hK K
          try simp only [Act.put, List.setIfInBounds_toArray, List.set_cons_zero, List.set_cons_succ]
          refine wpAnyH_ready (rs := [5, 9]) (by kernel_rfl) (by simp) ?_
          refine AllReadyH.cons (o := _) rfl (fun K hK => ?_) ?_
          · go_simp
            refine hK.out _ _ ⟨cell_alloc _ hHeld.1, cell_alloc _ hHeld.2.1, cell_alloc _ hHeld.2.2.1, cell_alloc _ hHeld.2.2.2⟩ (fun hHeld => ?_)
            clear hK K
            try simp only [Act.put, List.setIfInBounds_toArray, List.set_cons_zero, List.set_cons_succ]
            have bB := xb_new (u1) (.cells #[.int .u8 x] 5)
            have ltbB : w2.heap.size ≤ (u1).heap.size := HB.out.size
            replace xA := cell_alloc (.cells #[.int .u8 x] 5) xA
            replace bA := xb_alloc (o' := .cells #[.int .u8 x] 5) bA
            replace HB := Lib.hid (below_alloc HB.out (.cells #[.int .u8 x] 5))
            have nbB : (u1).heap.size < ((u1).alloc (.cells #[.int .u8 x] 5)).heap.size := by rw [World.size_alloc]; exact Nat.lt_succ_self _
            generalize (u1).alloc (.cells #[.int .u8 x] 5) = u2 at *
            refine wpAnyH_ready (rs := [7, 9]) (by kernel_rfl) (by simp) ?_
            refine AllReadyH.cons (o := _) rfl (fun K hK => ?_) ?_
            · refine Kd.R_append_rows_step (Kd.int .u8) (Rr := (Kd.int .u8).K u2) (w0 := w2) w2.heap.size (by rfl) (.tmp 26) (.tmp 27) 22 5 (.int .u8 0) 1 rfl Tryd.underlying22 inf5 rfl (by decide) (by decide) (.slice (some ⟨u1.heap.size, 0, none⟩) 1 1) [x] more A0 more.length c0 (fun _ => True) (fun _ => False) rfl rfl (Ses.lit_row bB ltbB) (Kd.C_below HM.out HB.out) (fun _ _ h => h) (fun _ hk => hk.elim) (fun _ _ => trivial) HB.out HB.out.size (by simp only [List.length_cons, List.length_nil]; omega) ?_
              intro v7 u3 hR7 hB7 hg7 hat7
              obtain ⟨A7, c7, rfl, hle7, hC7⟩ := Kd.R_reads hR7
              refine hK.out _ _ ⟨(hB7.cell (p := ⟨w.heap.size, 0, none⟩) hw2).trans st0, (hB7.cell (p := ⟨w.heap.size, 1, none⟩) hw2).trans st1, (hB7.cell (p := ⟨w.heap.size, 2, none⟩) hw2).trans st2, (hB7.cell (p := ⟨w.heap.size, 3, none⟩) hw2).trans st3⟩ (fun hHeld => ?_)
              clear hK K
              try simp only [Act.put, List.setIfInBounds_toArray, List.set_cons_zero, List.set_cons_succ]
              replace HB := Lib.hid hB7
              have HV := Lib.hid hC7
              clear hR7 hB7 hg7 hat7 hC7 bB
              clear bA xA
              refine wpAnyH_ready (rs := [9]) (by kernel_rfl) (by simp) ?_
              refine AllReadyH.cons (o := _) rfl (fun K hK => ?_) ?_
              · go_simp
                refine hK.out _ _ ⟨cell_alloc _ hHeld.1, cell_alloc _ hHeld.2.1, cell_alloc _ hHeld.2.2.1, cell_alloc _ hHeld.2.2.2⟩ (fun hHeld => ?_)
                clear hK K
                try simp only [Act.put, List.setIfInBounds_toArray, List.set_cons_zero, List.set_cons_succ]
                have bC := xb_new (u3) (.cells #[.int .i64 2, .int .i64 0, .bool false, .bool false] 35)
                have ltbC : w2.heap.size ≤ (u3).heap.size := HB.out.size
                replace HV := Lib.hid (Kd.C_alloc HV.out (.cells #[.int .i64 2, .int .i64 0, .bool false, .bool false] 35))
                replace HB := Lib.hid (below_alloc HB.out (.cells #[.int .i64 2, .int .i64 0, .bool false, .bool false] 35))
                have nbC : (u3).heap.size < ((u3).alloc (.cells #[.int .i64 2, .int .i64 0, .bool false, .bool false] 35)).heap.size := by rw [World.size_alloc]; exact Nat.lt_succ_self _
                generalize (u3).alloc (.cells #[.int .i64 2, .int .i64 0, .bool false, .bool false] 35) = u4 at *
                refine wpAnyH_ready (rs := [10]) (by kernel_rfl) (by simp) ?_
                refine AllReadyH.cons (o := _) rfl (fun K hK => ?_) ?_
                · go_simp
                  go_at_call 18
                  obtain ⟨gV, oV, rfl, hgV, hcV⟩ := C_base HV.out (by simp)
                  refine (HGet.out u4 ⟨gV, oV, none⟩ _ (u3.heap.size) (fun i hi => Ses.add_cell (hcV i hi)) (xb_cell bC 0) (xb_cell bC 1) (xb_cell bC 2) (xb_cell bC 3)).mono ?_
                  rintro e u5 ⟨dA, dn, dc, g2, c2, v2, rfl, ⟨y0, y1, y3⟩, hD, hR2, hb2⟩
                  obtain ⟨A3, c3, rfl, hle3, hC3⟩ := Kd.R_reads hR2
                  injection hD with hD1 hD2 hD3; subst hD1; subst hD2; subst hD3
                  go_wp2
                  replace HB := Lib.hid (HB.out.trans (hb2.mono HB.out.size))
                  have HC3 : Hid (Kd.C (Kd.int .u8) u5 A3 more.length more) := Lib.hid hC3
                  have hle3b : more.length ≤ c3 := hle3
                  refine hK.out _ _ ⟨(HB.out.cell (p := ⟨w.heap.size, 0, none⟩) hw2).trans st0, (HB.out.cell (p := ⟨w.heap.size, 1, none⟩) hw2).trans st1, (HB.out.cell (p := ⟨w.heap.size, 2, none⟩) hw2).trans st2, (HB.out.cell (p := ⟨w.heap.size, 3, none⟩) hw2).trans st3⟩ (fun hHeld => ?_)
                  clear hK K
                  try simp only [Act.put, List.setIfInBounds_toArray, List.set_cons_zero, List.set_cons_succ]
                  clear hR2 hb2 hC3 bC HV
                  refine wpAnyH_take (i := 11) (v := ?_) rfl (by kernel_rfl) (by kernel_rfl) (by kernel_rfl) (fun _ _ _ h => h) (Or.inl ⟨by rfl, ?_⟩) (by assumption) ?_
                  rotate_left
                  · intro w hSw
                    obtain ⟨hs0, hs1, hs2, hs3⟩ := hSw
                    go_simp
                    try (with_reducible rfl)
                  try simp only [Act.put, List.setIfInBounds_toArray, List.set_cons_zero, List.set_cons_succ]
                  refine wpAnyH_take (i := 12) (v := ?_) rfl (by kernel_rfl) (by kernel_rfl) (by kernel_rfl) (fun _ _ _ h => h) (Or.inl ⟨by rfl, ?_⟩) (by assumption) ?_
                  rotate_left
                  · intro w hSw
                    obtain ⟨hs0, hs1, hs2, hs3⟩ := hSw
                    go_simp
                    try (with_reducible rfl)
                  try simp only [Act.put, List.setIfInBounds_toArray, List.set_cons_zero, List.set_cons_succ]
                  refine wpAnyH_take (i := 13) (v := ?_) rfl (by kernel_rfl) (by kernel_rfl) (by kernel_rfl) (fun _ _ _ h => h) (Or.inl ⟨by rfl, ?_⟩) (by assumption) ?_
                  rotate_left
                  · intro w hSw
                    obtain ⟨hs0, hs1, hs2, hs3⟩ := hSw
                    go_simp
                    try (with_reducible rfl)
                  try simp only [Act.put, List.setIfInBounds_toArray, List.set_cons_zero, List.set_cons_succ]
                  refine wpAnyH_take (i := 14) (v := ?_) rfl (by kernel_rfl) (by kernel_rfl) (by kernel_rfl) (fun _ _ _ h => h) (Or.inl ⟨by rfl, ?_⟩) (by assumption) ?_
                  rotate_left
                  · intro w hSw
                    obtain ⟨hs0, hs1, hs2, hs3⟩ := hSw
                    go_simp
                    try (with_reducible rfl)
                  try simp only [Act.put, List.setIfInBounds_toArray, List.set_cons_zero, List.set_cons_succ]
                  refine wpAnyH_take (i := 15) (v := ?_) rfl (by kernel_rfl) (by kernel_rfl) (by kernel_rfl) (fun _ _ _ h => h) (Or.inl ⟨by rfl, ?_⟩) (by assumption) ?_
                  rotate_left
                  · intro w hSw
                    obtain ⟨hs0, hs1, hs2, hs3⟩ := hSw
                    go_simp
                    try (with_reducible rfl)
                  try simp only [Act.put, List.setIfInBounds_toArray, List.set_cons_zero, List.set_cons_succ]
                  refine wpAnyH_done (by kernel_rfl) ?_ _
                  refine NoPanic.normal ?_
                  go_wp2_with (first | (go_at_call 19; (with_reducible refine (bytes_Equal.calls A3 c3 more A0 c0 more true _ HC3.out hle3b (Kd.C_below HM.out HB.out) hc0 hef).mono ?_); rintro e w8 ⟨rfl, n8, rfl⟩) | (go_at_call 14; (with_reducible refine (sessionLive_calls _).mono ?_); rintro e w9 ⟨rfl, hb9⟩))
                  go_ret
                  exact ⟨rfl, HBw.out.trans ((HB.out.trans ((bl_trans (bl_drewN _ n8) hb9).mono HB.out.size)).mono HBw.out.size)⟩
                exact AllReadyH.nil
              exact AllReadyH.nil
            refine AllReadyH.cons (o := _) rfl (fun K hK => ?_) ?_
            · go_simp
              refine hK.out _ _ ⟨cell_alloc _ hHeld.1, cell_alloc _ hHeld.2.1, cell_alloc _ hHeld.2.2.1, cell_alloc _ hHeld.2.2.2⟩ (fun hHeld => ?_)
              clear hK K
              try simp only [Act.put, List.setIfInBounds_toArray, List.set_cons_zero, List.set_cons_succ]
              have bC := xb_new (u2) (.cells #[.int .i64 2, .int .i64 0, .bool false, .bool false] 35)
              have ltbC : w2.heap.size ≤ (u2).heap.size := HB.out.size
              replace xA := cell_alloc (.cells #[.int .i64 2, .int .i64 0, .bool false, .bool false] 35) xA
              replace bA := xb_alloc (o' := .cells #[.int .i64 2, .int .i64 0, .bool false, .bool false] 35) bA
              replace bB := xb_alloc (o' := .cells #[.int .i64 2, .int .i64 0, .bool false, .bool false] 35) bB
              replace HB := Lib.hid (below_alloc HB.out (.cells #[.int .i64 2, .int .i64 0, .bool false, .bool false] 35))
              have nbC : (u2).heap.size < ((u2).alloc (.cells #[.int .i64 2, .int .i64 0, .bool false, .bool false] 35)).heap.size := by rw [World.size_alloc]; exact Nat.lt_succ_self _
              generalize (u2).alloc (.cells #[.int .i64 2, .int .i64 0, .bool false, .bool false] 35) = u3 at *
              refine wpAnyH_ready (rs := [7]) (by kernel_rfl) (by simp) ?_
              refine AllReadyH.cons (o := _) rfl (fun K hK => ?_) ?_
              · have hCB : u2.heap.size ≠ u1.heap.size := by omega
                refine Kd.R_append_rows_step (Kd.int .u8) (Rr := (Kd.int .u8).K u3) (w0 := w2) w2.heap.size (by rfl) (.tmp 26) (.tmp 27) 22 5 (.int .u8 0) 1 rfl Tryd.underlying22 inf5 rfl (by decide) (by decide) (.slice (some ⟨u1.heap.size, 0, none⟩) 1 1) [x] more A0 more.length c0 (fun _ => True) (fun _ => False) rfl rfl (Ses.lit_row bB ltbB) (Kd.C_below HM.out HB.out) (fun _ _ h => h) (fun _ hk => hk.elim) (fun _ _ => trivial) HB.out HB.out.size (by simp only [List.length_cons, List.length_nil]; omega) ?_
                intro v7 u4 hR7 hB7 hg7 hat7
                obtain ⟨A7, c7, rfl, hle7, hC7⟩ := Kd.R_reads hR7
                refine hK.out _ _ ⟨(hB7.cell (p := ⟨w.heap.size, 0, none⟩) hw2).trans st0, (hB7.cell (p := ⟨w.heap.size, 1, none⟩) hw2).trans st1, (hB7.cell (p := ⟨w.heap.size, 2, none⟩) hw2).trans st2, (hB7.cell (p := ⟨w.heap.size, 3, none⟩) hw2).trans st3⟩ (fun hHeld => ?_)
                clear hK K
                try simp only [Act.put, List.setIfInBounds_toArray, List.set_cons_zero, List.set_cons_succ]
                replace bC := (hg7.block (u2.heap.size) (xb_lt bC) (fun e => hCB (Option.some.inj e))).trans bC
                replace HB := Lib.hid hB7
                have HV := Lib.hid hC7
                clear hR7 hB7 hg7 hat7 hC7 bB
                clear bA xA
                refine wpAnyH_ready (rs := [10]) (by kernel_rfl) (by simp) ?_
                refine AllReadyH.cons (o := _) rfl (fun K hK => ?_) ?_
                · go_simp
                  go_at_call 18
                  obtain ⟨gV, oV, rfl, hgV, hcV⟩ := C_base HV.out (by simp)
                  refine (HGet.out u4 ⟨gV, oV, none⟩ _ (u2.heap.size) (fun i hi => Ses.add_cell (hcV i hi)) (xb_cell bC 0) (xb_cell bC 1) (xb_cell bC 2) (xb_cell bC 3)).mono ?_
                  rintro e u5 ⟨dA, dn, dc, g2, c2, v2, rfl, ⟨y0, y1, y3⟩, hD, hR2, hb2⟩
                  obtain ⟨A3, c3, rfl, hle3, hC3⟩ := Kd.R_reads hR2
                  injection hD with hD1 hD2 hD3; subst hD1; subst hD2; subst hD3
                  go_wp2
                  replace HB := Lib.hid (HB.out.trans (hb2.mono HB.out.size))
                  have HC3 : Hid (Kd.C (Kd.int .u8) u5 A3 more.length more) := Lib.hid hC3
                  have hle3b : more.length ≤ c3 := hle3
                  refine hK.out _ _ ⟨(HB.out.cell (p := ⟨w.heap.size, 0, none⟩) hw2).trans st0, (HB.out.cell (p := ⟨w.heap.size, 1, none⟩) hw2).trans st1, (HB.out.cell (p := ⟨w.heap.size, 2, none⟩) hw2).trans st2, (HB.out.cell (p := ⟨w.heap.size, 3, none⟩) hw2).trans st3⟩ (fun hHeld => ?_)
                  clear hK K
                  try simp only [Act.put, List.setIfInBounds_toArray, List.set_cons_zero, List.set_cons_succ]
                  clear hR2 hb2 hC3 bC HV
                  refine wpAnyH_take (i := 11) (v := ?_) rfl (by kernel_rfl) (by kernel_rfl) (by kernel_rfl) (fun _ _ _ h => h) (Or.inl ⟨by rfl, ?_⟩) (by assumption) ?_
                  rotate_left
                  · intro w hSw
                    obtain ⟨hs0, hs1, hs2, hs3⟩ := hSw
                    go_simp
                    try (with_reducible rfl)
                  try simp only [Act.put, List.setIfInBounds_toArray, List.set_cons_zero, List.set_cons_succ]
                  refine wpAnyH_take (i := 12) (v := ?_) rfl (by kernel_rfl) (by kernel_rfl) (by kernel_rfl) (fun _ _ _ h => h) (Or.inl ⟨by rfl, ?_⟩) (by assumption) ?_
                  rotate_left
                  · intro w hSw
                    obtain ⟨hs0, hs1, hs2, hs3⟩ := hSw
                    go_simp
                    try (with_reducible rfl)
                  try simp only [Act.put, List.setIfInBounds_toArray, List.set_cons_zero, List.set_cons_succ]
                  refine wpAnyH_take (i := 13) (v := ?_) rfl (by kernel_rfl) (by kernel_rfl) (by kernel_rfl) (fun _ _ _ h => h) (Or.inl ⟨by rfl, ?_⟩) (by assumption) ?_
                  rotate_left
                  · intro w hSw
                    obtain ⟨hs0, hs1, hs2, hs3⟩ := hSw
                    go_simp
                    try (with_reducible rfl)
                  try simp only [Act.put, List.setIfInBounds_toArray, List.set_cons_zero, List.set_cons_succ]
                  refine wpAnyH_take (i := 14) (v := ?_) rfl (by kernel_rfl) (by kernel_rfl) (by kernel_rfl) (fun _ _ _ h => h) (Or.inl ⟨by rfl, ?_⟩) (by assumption) ?_
                  rotate_left
                  · intro w hSw
                    obtain ⟨hs0, hs1, hs2, hs3⟩ := hSw
                    go_simp
                    try (with_reducible rfl)
                  try simp only [Act.put, List.setIfInBounds_toArray, List.set_cons_zero, List.set_cons_succ]
                  refine wpAnyH_take (i := 15) (v := ?_) rfl (by kernel_rfl) (by kernel_rfl) (by kernel_rfl) (fun _ _ _ h => h) (Or.inl ⟨by rfl, ?_⟩) (by assumption) ?_
                  rotate_left
                  · intro w hSw
                    obtain ⟨hs0, hs1, hs2, hs3⟩ := hSw
                    go_simp
                    try (with_reducible rfl)
                  try simp only [Act.put, List.setIfInBounds_toArray, List.set_cons_zero, List.set_cons_succ]
                  refine wpAnyH_done (by kernel_rfl) ?_ _
                  refine NoPanic.normal ?_
                  go_wp2_with (first | (go_at_call 19; (with_reducible refine (bytes_Equal.calls A3 c3 more A0 c0 more true _ HC3.out hle3b (Kd.C_below HM.out HB.out) hc0 hef).mono ?_); rintro e w8 ⟨rfl, n8, rfl⟩) | (go_at_call 14; (with_reducible refine (sessionLive_calls _).mono ?_); rintro e w9 ⟨rfl, hb9⟩))
                  go_ret
                  exact ⟨rfl, HBw.out.trans ((HB.out.trans ((bl_trans (bl_drewN _ n8) hb9).mono HB.out.size)).mono HBw.out.size)⟩
                exact AllReadyH.nil
              exact AllReadyH.nil
            exact AllReadyH.nil
          refine AllReadyH.cons (o := _) rfl (fun K hK => ?_) ?_
          · go_simp
            refine hK.out _ _ ⟨cell_alloc _ hHeld.1, cell_alloc _ hHeld.2.1, cell_alloc _ hHeld.2.2.1, cell_alloc _ hHeld.2.2.2⟩ (fun hHeld => ?_)
            clear hK K
            try simp only [Act.put, List.setIfInBounds_toArray, List.set_cons_zero, List.set_cons_succ]
            have bC := xb_new (u1) (.cells #[.int .i64 2, .int .i64 0, .bool false, .bool false] 35)
            have ltbC : w2.heap.size ≤ (u1).heap.size := HB.out.size
            replace xA := cell_alloc (.cells #[.int .i64 2, .int .i64 0, .bool false, .bool false] 35) xA
            replace bA := xb_alloc (o' := .cells #[.int .i64 2, .int .i64 0, .bool false, .bool false] 35) bA
            replace HB := Lib.hid (below_alloc HB.out (.cells #[.int .i64 2, .int .i64 0, .bool false, .bool false] 35))
            have nbC : (u1).heap.size < ((u1).alloc (.cells #[.int .i64 2, .int .i64 0, .bool false, .bool false] 35)).heap.size := by rw [World.size_alloc]; exact Nat.lt_succ_self _
            generalize (u1).alloc (.cells #[.int .i64 2, .int .i64 0, .bool false, .bool false] 35) = u2 at *
            refine wpAnyH_ready (rs := [5]) (by kernel_rfl) (by simp) ?_
            refine AllReadyH.cons (o := _) rfl (fun K hK => ?_) ?_
            · go_simp
              refine hK.out _ _ ⟨cell_alloc _ hHeld.1, cell_alloc _ hHeld.2.1, cell_alloc _ hHeld.2.2.1, cell_alloc _ hHeld.2.2.2⟩ (fun hHeld => ?_)
              clear hK K
              try simp only [Act.put, List.setIfInBounds_toArray, List.set_cons_zero, List.set_cons_succ]
              have bB := xb_new (u2) (.cells #[.int .u8 x] 5)
              have ltbB : w2.heap.size ≤ (u2).heap.size := HB.out.size
              replace xA := cell_alloc (.cells #[.int .u8 x] 5) xA
              replace bA := xb_alloc (o' := .cells #[.int .u8 x] 5) bA
              replace bC := xb_alloc (o' := .cells #[.int .u8 x] 5) bC
              replace HB := Lib.hid (below_alloc HB.out (.cells #[.int .u8 x] 5))
              have nbB : (u2).heap.size < ((u2).alloc (.cells #[.int .u8 x] 5)).heap.size := by rw [World.size_alloc]; exact Nat.lt_succ_self _
              generalize (u2).alloc (.cells #[.int .u8 x] 5) = u3 at *
              refine wpAnyH_ready (rs := [7]) (by kernel_rfl) (by simp) ?_
              refine AllReadyH.cons (o := _) rfl (fun K hK => ?_) ?_
              · have hCB : u1.heap.size ≠ u2.heap.size := by omega
                refine Kd.R_append_rows_step (Kd.int .u8) (Rr := (Kd.int .u8).K u3) (w0 := w2) w2.heap.size (by rfl) (.tmp 26) (.tmp 27) 22 5 (.int .u8 0) 1 rfl Tryd.underlying22 inf5 rfl (by decide) (by decide) (.slice (some ⟨u2.heap.size, 0, none⟩) 1 1) [x] more A0 more.length c0 (fun _ => True) (fun _ => False) rfl rfl (Ses.lit_row bB ltbB) (Kd.C_below HM.out HB.out) (fun _ _ h => h) (fun _ hk => hk.elim) (fun _ _ => trivial) HB.out HB.out.size (by simp only [List.length_cons, List.length_nil]; omega) ?_
                intro v7 u4 hR7 hB7 hg7 hat7
                obtain ⟨A7, c7, rfl, hle7, hC7⟩ := Kd.R_reads hR7
                refine hK.out _ _ ⟨(hB7.cell (p := ⟨w.heap.size, 0, none⟩) hw2).trans st0, (hB7.cell (p := ⟨w.heap.size, 1, none⟩) hw2).trans st1, (hB7.cell (p := ⟨w.heap.size, 2, none⟩) hw2).trans st2, (hB7.cell (p := ⟨w.heap.size, 3, none⟩) hw2).trans st3⟩ (fun hHeld => ?_)
                clear hK K
                try simp only [Act.put, List.setIfInBounds_toArray, List.set_cons_zero, List.set_cons_succ]
                replace bC := (hg7.block (u1.heap.size) (xb_lt bC) (fun e => hCB (Option.some.inj e))).trans bC
                replace HB := Lib.hid hB7
                have HV := Lib.hid hC7
                clear hR7 hB7 hg7 hat7 hC7 bB
                clear bA xA
                refine wpAnyH_ready (rs := [10]) (by kernel_rfl) (by simp) ?_
                refine AllReadyH.cons (o := _) rfl (fun K hK => ?_) ?_
                · go_simp
                  go_at_call 18
                  obtain ⟨gV, oV, rfl, hgV, hcV⟩ := C_base HV.out (by simp)
                  refine (HGet.out u4 ⟨gV, oV, none⟩ _ (u1.heap.size) (fun i hi => Ses.add_cell (hcV i hi)) (xb_cell bC 0) (xb_cell bC 1) (xb_cell bC 2) (xb_cell bC 3)).mono ?_
                  rintro e u5 ⟨dA, dn, dc, g2, c2, v2, rfl, ⟨y0, y1, y3⟩, hD, hR2, hb2⟩
                  obtain ⟨A3, c3, rfl, hle3, hC3⟩ := Kd.R_reads hR2
                  injection hD with hD1 hD2 hD3; subst hD1; subst hD2; subst hD3
                  go_wp2
                  replace HB := Lib.hid (HB.out.trans (hb2.mono HB.out.size))
                  have HC3 : Hid (Kd.C (Kd.int .u8) u5 A3 more.length more) := Lib.hid hC3
                  have hle3b : more.length ≤ c3 := hle3
                  refine hK.out _ _ ⟨(HB.out.cell (p := ⟨w.heap.size, 0, none⟩) hw2).trans st0, (HB.out.cell (p := ⟨w.heap.size, 1, none⟩) hw2).trans st1, (HB.out.cell (p := ⟨w.heap.size, 2, none⟩) hw2).trans st2, (HB.out.cell (p := ⟨w.heap.size, 3, none⟩) hw2).trans st3⟩ (fun hHeld => ?_)
                  clear hK K
                  try simp only [Act.put, List.setIfInBounds_toArray, List.set_cons_zero, List.set_cons_succ]
                  clear hR2 hb2 hC3 bC HV
                  refine wpAnyH_take (i := 11) (v := ?_) rfl (by kernel_rfl) (by kernel_rfl) (by kernel_rfl) (fun _ _ _ h => h) (Or.inl ⟨by rfl, ?_⟩) (by assumption) ?_
                  rotate_left
                  · intro w hSw
                    obtain ⟨hs0, hs1, hs2, hs3⟩ := hSw
                    go_simp
                    try (with_reducible rfl)
                  try simp only [Act.put, List.setIfInBounds_toArray, List.set_cons_zero, List.set_cons_succ]
                  refine wpAnyH_take (i := 12) (v := ?_) rfl (by kernel_rfl) (by kernel_rfl) (by kernel_rfl) (fun _ _ _ h => h) (Or.inl ⟨by rfl, ?_⟩) (by assumption) ?_
                  rotate_left
                  · intro w hSw
                    obtain ⟨hs0, hs1, hs2, hs3⟩ := hSw
                    go_simp
                    try (with_reducible rfl)
                  try simp only [Act.put, List.setIfInBounds_toArray, List.set_cons_zero, List.set_cons_succ]
                  refine wpAnyH_take (i := 13) (v := ?_) rfl (by kernel_rfl) (by kernel_rfl) (by kernel_rfl) (fun _ _ _ h => h) (Or.inl ⟨by rfl, ?_⟩) (by assumption) ?_
                  rotate_left
                  · intro w hSw
                    obtain ⟨hs0, hs1, hs2, hs3⟩ := hSw
                    go_simp
                    try (with_reducible rfl)
                  try simp only [Act.put, List.setIfInBounds_toArray, List.set_cons_zero, List.set_cons_succ]
                  refine wpAnyH_take (i := 14) (v := ?_) rfl (by kernel_rfl) (by kernel_rfl) (by kernel_rfl) (fun _ _ _ h => h) (Or.inl ⟨by rfl, ?_⟩) (by assumption) ?_
                  rotate_left
                  · intro w hSw
                    obtain ⟨hs0, hs1, hs2, hs3⟩ := hSw
                    go_simp
                    try (with_reducible rfl)
                  try simp only [Act.put, List.setIfInBounds_toArray, List.set_cons_zero, List.set_cons_succ]
                  refine wpAnyH_take (i := 15) (v := ?_) rfl (by kernel_rfl) (by kernel_rfl) (by kernel_rfl) (fun _ _ _ h => h) (Or.inl ⟨by rfl, ?_⟩) (by assumption) ?_
                  rotate_left
                  · intro w hSw
                    obtain ⟨hs0, hs1, hs2, hs3⟩ := hSw
                    go_simp
                    try (with_reducible rfl)
                  try simp only [Act.put, List.setIfInBounds_toArray, List.set_cons_zero, List.set_cons_succ]
                  refine wpAnyH_done (by kernel_rfl) ?_ _
                  refine NoPanic.normal ?_
                  go_wp2_with (first | (go_at_call 19; (with_reducible refine (bytes_Equal.calls A3 c3 more A0 c0 more true _ HC3.out hle3b (Kd.C_below HM.out HB.out) hc0 hef).mono ?_); rintro e w8 ⟨rfl, n8, rfl⟩) | (go_at_call 14; (with_reducible refine (sessionLive_calls _).mono ?_); rintro e w9 ⟨rfl, hb9⟩))
                  go_ret
                  exact ⟨rfl, HBw.out.trans ((HB.out.trans ((bl_trans (bl_drewN _ n8) hb9).mono HB.out.size)).mono HBw.out.size)⟩
                exact AllReadyH.nil
              exact AllReadyH.nil
            exact AllReadyH.nil
          exact AllReadyH.nil
        refine AllReadyH.cons (o := _) rfl (fun K hK => ?_) ?_
        · go_simp
          refine hK.out _ _ ⟨cell_alloc _ hHeld.1, cell_alloc _ hHeld.2.1, cell_alloc _ hHeld.2.2.1, cell_alloc _ hHeld.2.2.2⟩ (fun hHeld => ?_)
          clear hK K
          try simp only [Act.put, List.setIfInBounds_toArray, List.set_cons_zero, List.set_cons_succ]
          have bC := xb_new (u1) (.cells #[.int .i64 2, .int .i64 0, .bool false, .bool false] 35)
          have ltbC : w2.heap.size ≤ (u1).heap.size := HB.out.size
          replace xA := cell_alloc (.cells #[.int .i64 2, .int .i64 0, .bool false, .bool false] 35) xA
          replace bA := xb_alloc (o' := .cells #[.int .i64 2, .int .i64 0, .bool false, .bool false] 35) bA
          replace HB := Lib.hid (below_alloc HB.out (.cells #[.int .i64 2, .int .i64 0, .bool false, .bool false] 35))
          have nbC : (u1).heap.size < ((u1).alloc (.cells #[.int .i64 2, .int .i64 0, .bool false, .bool false] 35)).heap.size := by rw [World.size_alloc]; exact Nat.lt_succ_self _
          generalize (u1).alloc (.cells #[.int .i64 2, .int .i64 0, .bool false, .bool false] 35) = u2 at *
          refine wpAnyH_ready (rs := [4]) (by kernel_rfl) (by simp) ?_
          refine AllReadyH.cons (o := _) rfl (fun K hK => ?_) ?_
          · go_simp
            refine hK.out _ _ hHeld (fun hHeld => ?_)
            clear hK K
            try simp only [Act.put, List.setIfInBounds_toArray, List.set_cons_zero, List.set_cons_succ]
            refine wpAnyH_ready (rs := [5]) (by kernel_rfl) (by simp) ?_
            refine AllReadyH.cons (o := _) rfl (fun K hK => ?_) ?_
            · go_simp
              refine hK.out _ _ ⟨cell_alloc _ hHeld.1, cell_alloc _ hHeld.2.1, cell_alloc _ hHeld.2.2.1, cell_alloc _ hHeld.2.2.2⟩ (fun hHeld => ?_)
              clear hK K
              try simp only [Act.put, List.setIfInBounds_toArray, List.set_cons_zero, List.set_cons_succ]
              have bB := xb_new (u2) (.cells #[.int .u8 x] 5)
              have ltbB : w2.heap.size ≤ (u2).heap.size := HB.out.size
              replace xA := cell_alloc (.cells #[.int .u8 x] 5) xA
              replace bA := xb_alloc (o' := .cells #[.int .u8 x] 5) bA
              replace bC := xb_alloc (o' := .cells #[.int .u8 x] 5) bC
              replace HB := Lib.hid (below_alloc HB.out (.cells #[.int .u8 x] 5))
              have nbB : (u2).heap.size < ((u2).alloc (.cells #[.int .u8 x] 5)).heap.size := by rw [World.size_alloc]; exact Nat.lt_succ_self _
              generalize (u2).alloc (.cells #[.int .u8 x] 5) = u3 at *
              refine wpAnyH_ready (rs := [7]) (by kernel_rfl) (by simp) ?_
              refine AllReadyH.cons (o := _) rfl (fun K hK => ?_) ?_
              · have hCB : u1.heap.size ≠ u2.heap.size := by omega
                refine Kd.R_append_rows_step (Kd.int .u8) (Rr := (Kd.int .u8).K u3) (w0 := w2) w2.heap.size (by rfl) (.tmp 26) (.tmp 27) 22 5 (.int .u8 0) 1 rfl Tryd.underlying22 inf5 rfl (by decide) (by decide) (.slice (some ⟨u2.heap.size, 0, none⟩) 1 1) [x] more A0 more.length c0 (fun _ => True) (fun _ => False) rfl rfl (Ses.lit_row bB ltbB) (Kd.C_below HM.out HB.out) (fun _ _ h => h) (fun _ hk => hk.elim) (fun _ _ => trivial) HB.out HB.out.size (by simp only [List.length_cons, List.length_nil]; omega) ?_
                intro v7 u4 hR7 hB7 hg7 hat7
                obtain ⟨A7, c7, rfl, hle7, hC7⟩ := Kd.R_reads hR7
                refine hK.out _ _ ⟨(hB7.cell (p := ⟨w.heap.size, 0, none⟩) hw2).trans st0, (hB7.cell (p := ⟨w.heap.size, 1, none⟩) hw2).trans st1, (hB7.cell (p := ⟨w.heap.size, 2, none⟩) hw2).trans st2, (hB7.cell (p := ⟨w.heap.size, 3, none⟩) hw2).trans st3⟩ (fun hHeld => ?_)
                clear hK K
                try simp only [Act.put, List.setIfInBounds_toArray, List.set_cons_zero, List.set_cons_succ]
                replace bC := (hg7.block (u1.heap.size) (xb_lt bC) (fun e => hCB (Option.some.inj e))).trans bC
                replace HB := Lib.hid hB7
                have HV := Lib.hid hC7
                clear hR7 hB7 hg7 hat7 hC7 bB
                clear bA xA
                refine wpAnyH_ready (rs := [10]) (by kernel_rfl) (by simp) ?_
                refine AllReadyH.cons (o := _) rfl (fun K hK => ?_) ?_
                · go_simp
                  go_at_call 18
                  obtain ⟨gV, oV, rfl, hgV, hcV⟩ := C_base HV.out (by simp)
                  refine (HGet.out u4 ⟨gV, oV, none⟩ _ (u1.heap.size) (fun i hi => Ses.add_cell (hcV i hi)) (xb_cell bC 0) (xb_cell bC 1) (xb_cell bC 2) (xb_cell bC 3)).mono ?_
                  rintro e u5 ⟨dA, dn, dc, g2, c2, v2, rfl, ⟨y0, y1, y3⟩, hD, hR2, hb2⟩
                  obtain ⟨A3, c3, rfl, hle3, hC3⟩ := Kd.R_reads hR2
                  injection hD with hD1 hD2 hD3; subst hD1; subst hD2; subst hD3
                  go_wp2
                  replace HB := Lib.hid (HB.out.trans (hb2.mono HB.out.size))
                  have HC3 : Hid (Kd.C (Kd.int .u8) u5 A3 more.length more) := Lib.hid hC3
                  have hle3b : more.length ≤ c3 := hle3
                  refine hK.out _ _ ⟨(HB.out.cell (p := ⟨w.heap.size, 0, none⟩) hw2).trans st0, (HB.out.cell (p := ⟨w.heap.size, 1, none⟩) hw2).trans st1, (HB.out.cell (p := ⟨w.heap.size, 2, none⟩) hw2).trans st2, (HB.out.cell (p := ⟨w.heap.size, 3, none⟩) hw2).trans st3⟩ (fun hHeld => ?_)
                  clear hK K
                  try simp only [Act.put, List.setIfInBounds_toArray, List.set_cons_zero, List.set_cons_succ]
                  clear hR2 hb2 hC3 bC HV
                  refine wpAnyH_take (i := 11) (v := ?_) rfl (by kernel_rfl) (by kernel_rfl) (by kernel_rfl) (fun _ _ _ h => h) (Or.inl ⟨by rfl, ?_⟩) (by assumption) ?_
                  rotate_left
                  · intro w hSw
                    obtain ⟨hs0, hs1, hs2, hs3⟩ := hSw
                    go_simp
                    try (with_reducible rfl)
                  try simp only [Act.put, List.setIfInBounds_toArray, List.set_cons_zero, List.set_cons_succ]
                  refine wpAnyH_take (i := 12) (v := ?_) rfl (by kernel_rfl) (by kernel_rfl) (by kernel_rfl) (fun _ _ _ h => h) (Or.inl ⟨by rfl, ?_⟩) (by assumption) ?_
                  rotate_left
                  · intro w hSw
                    obtain ⟨hs0, hs1, hs2, hs3⟩ := hSw
                    go_simp
                    try (with_reducible rfl)
                  try simp only [Act.put, List.setIfInBounds_toArray, List.set_cons_zero, List.set_cons_succ]
                  refine wpAnyH_take (i := 13) (v := ?_) rfl (by kernel_rfl) (by kernel_rfl) (by kernel_rfl) (fun _ _ _ h => h) (Or.inl ⟨by rfl, ?_⟩) (by assumption) ?_
                  rotate_left
                  · intro w hSw
                    obtain ⟨hs0, hs1, hs2, hs3⟩ := hSw
                    go_simp
                    try (with_reducible rfl)
                  try simp only [Act.put, List.setIfInBounds_toArray, List.set_cons_zero, List.set_cons_succ]
                  refine wpAnyH_take (i := 14) (v := ?_) rfl (by kernel_rfl) (by kernel_rfl) (by kernel_rfl) (fun _ _ _ h => h) (Or.inl ⟨by rfl, ?_⟩) (by assumption) ?_
                  rotate_left
                  · intro w hSw
                    obtain ⟨hs0, hs1, hs2, hs3⟩ := hSw
                    go_simp
                    try (with_reducible rfl)
                  try simp only [Act.put, List.setIfInBounds_toArray, List.set_cons_zero, List.set_cons_succ]
                  refine wpAnyH_take (i := 15) (v := ?_) rfl (by kernel_rfl) (by kernel_rfl) (by kernel_rfl) (fun _ _ _ h => h) (Or.inl ⟨by rfl, ?_⟩) (by assumption) ?_
                  rotate_left
                  · intro w hSw
                    obtain ⟨hs0, hs1, hs2, hs3⟩ := hSw
                    go_simp
                    try (with_reducible rfl)
                  try simp only [Act.put, List.setIfInBounds_toArray, List.set_cons_zero, List.set_cons_succ]
                  refine wpAnyH_done (by kernel_rfl) ?_ _
                  refine NoPanic.normal ?_
                  go_wp2_with (first | (go_at_call 19; (with_reducible refine (bytes_Equal.calls A3 c3 more A0 c0 more true _ HC3.out hle3b (Kd.C_below HM.out HB.out) hc0 hef).mono ?_); rintro e w8 ⟨rfl, n8, rfl⟩) | (go_at_call 14; (with_reducible refine (sessionLive_calls _).mono ?_); rintro e w9 ⟨rfl, hb9⟩))
                  go_ret
                  exact ⟨rfl, HBw.out.trans ((HB.out.trans ((bl_trans (bl_drewN _ n8) hb9).mono HB.out.size)).mono HBw.out.size)⟩
                exact AllReadyH.nil
              exact AllReadyH.nil
            exact AllReadyH.nil
          exact AllReadyH.nil
        exact AllReadyH.nil
      refine AllReadyH.cons (o := _) rfl (fun K hK => ?_) ?_
      · go_simp
        refine hK.out _ _ ⟨cell_alloc _ hHeld.1, cell_alloc _ hHeld.2.1, cell_alloc _ hHeld.2.2.1, cell_alloc _ hHeld.2.2.2⟩ (fun hHeld => ?_)
        clear hK K
        try simp only [Act.put, List.setIfInBounds_toArray, List.set_cons_zero, List.set_cons_succ]
        have bC := xb_new (u0) (.cells #[.int .i64 2, .int .i64 0, .bool false, .bool false] 35)
        have ltbC : w2.heap.size ≤ (u0).heap.size := HB.out.size
        replace HB := Lib.hid (below_alloc HB.out (.cells #[.int .i64 2, .int .i64 0, .bool false, .bool false] 35))
        have nbC : (u0).heap.size < ((u0).alloc (.cells #[.int .i64 2, .int .i64 0, .bool false, .bool false] 35)).heap.size := by rw [World.size_alloc]; exact Nat.lt_succ_self _
        generalize (u0).alloc (.cells #[.int .i64 2, .int .i64 0, .bool false, .bool false] 35) = u1 at *
        refine wpAnyH_ready (rs := [0]) (by kernel_rfl) (by simp) ?_
        refine AllReadyH.cons (o := _) rfl (fun K hK => ?_) ?_
        · go_simp
          refine hK.out _ _ ⟨cell_alloc _ hHeld.1, cell_alloc _ hHeld.2.1, cell_alloc _ hHeld.2.2.1, cell_alloc _ hHeld.2.2.2⟩ (fun hHeld => ?_)
          clear hK K
          try simp only [Act.put, List.setIfInBounds_toArray, List.set_cons_zero, List.set_cons_succ]
          have bA := xb_new (u1) (.cells #[.int .u8 0, .int .u8 253, .int .u8 255] 5)
          have ltbA : w2.heap.size ≤ (u1).heap.size := HB.out.size
          replace bC := xb_alloc (o' := .cells #[.int .u8 0, .int .u8 253, .int .u8 255] 5) bC
          replace HB := Lib.hid (below_alloc HB.out (.cells #[.int .u8 0, .int .u8 253, .int .u8 255] 5))
          have nbA : (u1).heap.size < ((u1).alloc (.cells #[.int .u8 0, .int .u8 253, .int .u8 255] 5)).heap.size := by rw [World.size_alloc]; exact Nat.lt_succ_self _
          generalize (u1).alloc (.cells #[.int .u8 0, .int .u8 253, .int .u8 255] 5) = u2 at *
          have xA := (xb_cell bA (k.tmod 3).toNat).trans hr
          refine wpAnyH_take (i := 3) (v := ?_) rfl (by kernel_rfl) (by kernel_rfl) (by kernel_rfl) (fun _ _ _ h => h) (Or.inl ⟨by rfl, ?_⟩) (by assumption) ?_
          rotate_left
          · intro w hSw
            obtain ⟨hs0, hs1, hs2, hs3⟩ := hSw
            go_simp
            try (with_reducible rfl)
          try simp only [Act.put, List.setIfInBounds_toArray, List.set_cons_zero, List.set_cons_succ]
          refine wpAnyH_ready (rs := [4]) (by kernel_rfl) (by simp) ?_
          refine AllReadyH.cons (o := _) rfl (fun K hK => ?_) ?_
          · go_simp
            refine hK.out _ _ hHeld (fun hHeld => ?_)
            clear hK K
            try simp only [Act.put, List.setIfInBounds_toArray, List.set_cons_zero, List.set_cons_succ]
            refine wpAnyH_ready (rs := [5]) (by kernel_rfl) (by simp) ?_
            refine AllReadyH.cons (o := _) rfl (fun K hK => ?_) ?_
            · go_simp
              refine hK.out _ _ ⟨cell_alloc _ hHeld.1, cell_alloc _ hHeld.2.1, cell_alloc _ hHeld.2.2.1, cell_alloc _ hHeld.2.2.2⟩ (fun hHeld => ?_)
              clear hK K
              try simp only [Act.put, List.setIfInBounds_toArray, List.set_cons_zero, List.set_cons_succ]
              have bB := xb_new (u2) (.cells #[.int .u8 x] 5)
              have ltbB : w2.heap.size ≤ (u2).heap.size := HB.out.size
              replace bC := xb_alloc (o' := .cells #[.int .u8 x] 5) bC
              replace xA := cell_alloc (.cells #[.int .u8 x] 5) xA
              replace bA := xb_alloc (o' := .cells #[.int .u8 x] 5) bA
              replace HB := Lib.hid (below_alloc HB.out (.cells #[.int .u8 x] 5))
              have nbB : (u2).heap.size < ((u2).alloc (.cells #[.int .u8 x] 5)).heap.size := by rw [World.size_alloc]; exact Nat.lt_succ_self _
              generalize (u2).alloc (.cells #[.int .u8 x] 5) = u3 at *
              refine wpAnyH_ready (rs := [7]) (by kernel_rfl) (by simp) ?_
              refine AllReadyH.cons (o := _) rfl (fun K hK => ?_) ?_
              · have hCB : u0.heap.size ≠ u2.heap.size := by omega
                refine Kd.R_append_rows_step (Kd.int .u8) (Rr := (Kd.int .u8).K u3) (w0 := w2) w2.heap.size (by rfl) (.tmp 26) (.tmp 27) 22 5 (.int .u8 0) 1 rfl Tryd.underlying22 inf5 rfl (by decide) (by decide) (.slice (some ⟨u2.heap.size, 0, none⟩) 1 1) [x] more A0 more.length c0 (fun _ => True) (fun _ => False) rfl rfl (Ses.lit_row bB ltbB) (Kd.C_below HM.out HB.out) (fun _ _ h => h) (fun _ hk => hk.elim) (fun _ _ => trivial) HB.out HB.out.size (by simp only [List.length_cons, List.length_nil]; omega) ?_
                intro v7 u4 hR7 hB7 hg7 hat7
                obtain ⟨A7, c7, rfl, hle7, hC7⟩ := Kd.R_reads hR7
                refine hK.out _ _ ⟨(hB7.cell (p := ⟨w.heap.size, 0, none⟩) hw2).trans st0, (hB7.cell (p := ⟨w.heap.size, 1, none⟩) hw2).trans st1, (hB7.cell (p := ⟨w.heap.size, 2, none⟩) hw2).trans st2, (hB7.cell (p := ⟨w.heap.size, 3, none⟩) hw2).trans st3⟩ (fun hHeld => ?_)
                clear hK K
                try simp only [Act.put, List.setIfInBounds_toArray, List.set_cons_zero, List.set_cons_succ]
                replace bC := (hg7.block (u0.heap.size) (xb_lt bC) (fun e => hCB (Option.some.inj e))).trans bC
                replace HB := Lib.hid hB7
                have HV := Lib.hid hC7
                clear hR7 hB7 hg7 hat7 hC7 bB
                clear bA xA
                refine wpAnyH_ready (rs := [10]) (by kernel_rfl) (by simp) ?_
                refine AllReadyH.cons (o := _) rfl (fun K hK => ?_) ?_
                · go_simp
                  go_at_call 18
                  obtain ⟨gV, oV, rfl, hgV, hcV⟩ := C_base HV.out (by simp)
                  refine (HGet.out u4 ⟨gV, oV, none⟩ _ (u0.heap.size) (fun i hi => Ses.add_cell (hcV i hi)) (xb_cell bC 0) (xb_cell bC 1) (xb_cell bC 2) (xb_cell bC 3)).mono ?_
                  rintro e u5 ⟨dA, dn, dc, g2, c2, v2, rfl, ⟨y0, y1, y3⟩, hD, hR2, hb2⟩
                  obtain ⟨A3, c3, rfl, hle3, hC3⟩ := Kd.R_reads hR2
                  injection hD with hD1 hD2 hD3; subst hD1; subst hD2; subst hD3
                  go_wp2
                  replace HB := Lib.hid (HB.out.trans (hb2.mono HB.out.size))
                  have HC3 : Hid (Kd.C (Kd.int .u8) u5 A3 more.length more) := Lib.hid hC3
                  have hle3b : more.length ≤ c3 := hle3
                  refine hK.out _ _ ⟨(HB.out.cell (p := ⟨w.heap.size, 0, none⟩) hw2).trans st0, (HB.out.cell (p := ⟨w.heap.size, 1, none⟩) hw2).trans st1, (HB.out.cell (p := ⟨w.heap.size, 2, none⟩) hw2).trans st2, (HB.out.cell (p := ⟨w.heap.size, 3, none⟩) hw2).trans st3⟩ (fun hHeld => ?_)
                  clear hK K
                  try simp only [Act.put, List.setIfInBounds_toArray, List.set_cons_zero, List.set_cons_succ]
                  clear hR2 hb2 hC3 bC HV
                  refine wpAnyH_take (i := 11) (v := ?_) rfl (by kernel_rfl) (by kernel_rfl) (by kernel_rfl) (fun _ _ _ h => h) (Or.inl ⟨by rfl, ?_⟩) (by assumption) ?_
                  rotate_left
                  · intro w hSw
                    obtain ⟨hs0, hs1, hs2, hs3⟩ := hSw
                    go_simp
                    try (with_reducible rfl)
                  try simp only [Act.put, List.setIfInBounds_toArray, List.set_cons_zero, List.set_cons_succ]
                  refine wpAnyH_take (i := 12) (v := ?_) rfl (by kernel_rfl) (by kernel_rfl) (by kernel_rfl) (fun _ _ _ h => h) (Or.inl ⟨by rfl, ?_⟩) (by assumption) ?_
                  rotate_left
                  · intro w hSw
                    obtain ⟨hs0, hs1, hs2, hs3⟩ := hSw
                    go_simp
                    try (with_reducible rfl)
                  try simp only [Act.put, List.setIfInBounds_toArray, List.set_cons_zero, List.set_cons_succ]
                  refine wpAnyH_take (i := 13) (v := ?_) rfl (by kernel_rfl) (by kernel_rfl) (by kernel_rfl) (fun _ _ _ h => h) (Or.inl ⟨by rfl, ?_⟩) (by assumption) ?_
                  rotate_left
                  · intro w hSw
                    obtain ⟨hs0, hs1, hs2, hs3⟩ := hSw
                    go_simp
                    try (with_reducible rfl)
                  try simp only [Act.put, List.setIfInBounds_toArray, List.set_cons_zero, List.set_cons_succ]
                  refine wpAnyH_take (i := 14) (v := ?_) rfl (by kernel_rfl) (by kernel_rfl) (by kernel_rfl) (fun _ _ _ h => h) (Or.inl ⟨by rfl, ?_⟩) (by assumption) ?_
                  rotate_left
                  · intro w hSw
                    obtain ⟨hs0, hs1, hs2, hs3⟩ := hSw
                    go_simp
                    try (with_reducible rfl)
                  try simp only [Act.put, List.setIfInBounds_toArray, List.set_cons_zero, List.set_cons_succ]
                  refine wpAnyH_take (i := 15) (v := ?_) rfl (by kernel_rfl) (by kernel_rfl) (by kernel_rfl) (fun _ _ _ h => h) (Or.inl ⟨by rfl, ?_⟩) (by assumption) ?_
                  rotate_left
                  · intro w hSw
                    obtain ⟨hs0, hs1, hs2, hs3⟩ := hSw
                    go_simp
                    try (with_reducible rfl)
                  try simp only [Act.put, List.setIfInBounds_toArray, List.set_cons_zero, List.set_cons_succ]
                  refine wpAnyH_done (by kernel_rfl) ?_ _
                  refine NoPanic.normal ?_
                  go_wp2_with (first | (go_at_call 19; (with_reducible refine (bytes_Equal.calls A3 c3 more A0 c0 more true _ HC3.out hle3b (Kd.C_below HM.out HB.out) hc0 hef).mono ?_); rintro e w8 ⟨rfl, n8, rfl⟩) | (go_at_call 14; (with_reducible refine (sessionLive_calls _).mono ?_); rintro e w9 ⟨rfl, hb9⟩))
                  go_ret
                  exact ⟨rfl, HBw.out.trans ((HB.out.trans ((bl_trans (bl_drewN _ n8) hb9).mono HB.out.size)).mono HBw.out.size)⟩
                exact AllReadyH.nil
              exact AllReadyH.nil
            exact AllReadyH.nil
          exact AllReadyH.nil
        exact AllReadyH.nil
      exact AllReadyH.nil
    · have HGet := Lib.hid (fun (W : World) (a : Addr) (cI g0 : Nat) hin s0 s1 s2 s3 => get_one (fun _ d => Value.slice none 0 0 = d) (fun _ _ _ h _ => h) 8 0 false false false (x :: more) 1 0 (by simp) (by simp only [List.length_cons]; omega) (by simp) (fun W2 b g c hrs => (got_fixed_none W2 b g c (x :: more) 0 false 64 hrs (by simp) (by exact hx)).mono (fun e w' h => ⟨none, 0, 0, h.1, rfl, h.2.1, h.2.2⟩)) W a cI g0 hin s0 s1 s2 s3)
      go_enter Tryd.func4, Tryd.ntmps4
      go_wp2
      have hb2 := xb_new w (.cells #[.int .i64 8, .int .i64 0, .bool false, .bool false] 35)
      have st0 := xb_cell hb2 0
      have st1 := xb_cell hb2 1
      have st2 := xb_cell hb2 2
      have st3 := xb_cell hb2 3
      have HBw : Hid (Below w.heap.size w (w.alloc (.cells #[.int .i64 8, .int .i64 0, .bool false, .bool false] 35))) := Lib.hid (below_alloc (Below.refl _ _) _)
      have hw2 : w.heap.size < (w.alloc (.cells #[.int .i64 8, .int .i64 0, .bool false, .bool false] 35)).heap.size := xb_lt hb2
      simp only [List.getElem?_toArray, List.getElem?_cons_zero, List.getElem?_cons_succ] at st0 st1 st2 st3
      clear hb2
      generalize w.alloc (.cells #[.int .i64 8, .int .i64 0, .bool false, .bool false] 35) = w2 at *
      have HM := Lib.hid (Kd.C_below HR.out HBw.out)
      have HB : Hid (Below w2.heap.size w2 w2.drew) := Lib.hid (below_drew (Below.refl _ _))
      refine wp_region_noPanic ?_
      refine wp_region_held_drew (S := fun w' => w'.cell? ⟨w.heap.size, 0, none⟩ = some (.int .i64 8) ∧ w'.cell? ⟨w.heap.size, 1, none⟩ = some (.int .i64 0) ∧ w'.cell? ⟨w.heap.size, 2, none⟩ = some (.bool false) ∧ w'.cell? ⟨w.heap.size, 3, none⟩ = some (.bool false)) (by kernel_rfl) ⟨st0, st1, st2, st3⟩ (fun hHeld => ?_)
      generalize w2.drew = u0 at *
      refine wpAnyH_take (i := 1) (v := ?_) rfl (by kernel_rfl) (by kernel_rfl) (by kernel_rfl) (fun _ _ _ h => h) (Or.inl ⟨by rfl, ?_⟩) (by assumption) ?_
      rotate_left
      · intro w hSw
        obtain ⟨hs0, hs1, hs2, hs3⟩ := hSw
        go_simp
        try (with_reducible rfl)
      try simp only [Act.put, List.setIfInBounds_toArray, List.set_cons_zero, List.set_cons_succ]
      refine wpAnyH_take (i := 2) (v := ?_) rfl (by kernel_rfl) (by kernel_rfl) (by kernel_rfl) (fun _ _ _ h => h) (Or.inl ⟨by rfl, ?_⟩) (by assumption) ?_
      rotate_left
      · intro w hSw
        obtain ⟨hs0, hs1, hs2, hs3⟩ := hSw
        go_simp
        try (with_reducible rfl)
      try simp only [Act.put, List.setIfInBounds_toArray, List.set_cons_zero, List.set_cons_succ]
      refine wpAnyH_take (i := 6) (v := ?_) rfl (by kernel_rfl) (by kernel_rfl) (by kernel_rfl) (fun _ _ _ h => h) (Or.inl ⟨by rfl, ?_⟩) (by assumption) ?_
      rotate_left
      · intro w hSw
        obtain ⟨hs0, hs1, hs2, hs3⟩ := hSw
        go_simp
        try (with_reducible rfl)
      try simp only [Act.put, List.setIfInBounds_toArray, List.set_cons_zero, List.set_cons_succ]
      refine wpAnyH_take (i := 8) (v := ?_) rfl (by kernel_rfl) (by kernel_rfl) (by kernel_rfl) (fun _ _ _ h => h) (Or.inl ⟨by rfl, ?_⟩) (by assumption) ?_
      rotate_left
      · intro w hSw
        obtain ⟨hs0, hs1, hs2, hs3⟩ := hSw
        go_simp
        try (with_reducible rfl)
      try simp only [Act.put, List.setIfInBounds_toArray, List.set_cons_zero, List.set_cons_succ]
      refine wpAnyH_ready (rs := [0, 9]) (by kernel_rfl) (by simp) ?_
      refine AllReadyH.cons (o := _) rfl (fun K hK => ?_) ?_
      · go_simp
        refine hK.out _ _ ⟨cell_alloc _ hHeld.1, cell_alloc _ hHeld.2.1, cell_alloc _ hHeld.2.2.1, cell_alloc _ hHeld.2.2.2⟩ (fun hHeld => ?_)
        clear hK K
        try simp only [Act.put, List.setIfInBounds_toArray, List.set_cons_zero, List.set_cons_succ]
        have bA := xb_new (u0) (.cells #[.int .u8 0, .int .u8 253, .int .u8 255] 5)
        have ltbA : w2.heap.size ≤ (u0).heap.size := HB.out.size
        replace HB := Lib.hid (below_alloc HB.out (.cells #[.int .u8 0, .int .u8 253, .int .u8 255] 5))
        have nbA : (u0).heap.size < ((u0).alloc (.cells #[.int .u8 0, .int .u8 253, .int .u8 255] 5)).heap.size := by rw [World.size_alloc]; exact Nat.lt_succ_self _
        generalize (u0).alloc (.cells #[.int .u8 0, .int .u8 253, .int .u8 255] 5) = u1 at *
        have xA := (xb_cell bA (k.tmod 3).toNat).trans hr
        refine wpAnyH_take (i := 3) (v := ?_) rfl (by kernel_rfl) (by kernel_rfl) (by kernel_rfl) (fun _ _ _ h => h) (Or.inl ⟨by rfl, ?_⟩) (by assumption) ?_
        rotate_left
        · intro w hSw
          obtain ⟨hs0, hs1, hs2, hs3⟩ := hSw
          go_simp
          try (with_reducible rfl)
        try simp only [Act.put, List.setIfInBounds_toArray, List.set_cons_zero, List.set_cons_succ]
        refine wpAnyH_ready (rs := [4, 9]) (by kernel_rfl) (by simp) ?_
        refine AllReadyH.cons (o := _) rfl (fun K hK => ?_) ?_
        · go_simp
          refine hK.out _ _ hHeld (fun hHeld => ?_)
          clear hK K
          try simp only [Act.put, List.setIfInBounds_toArray, List.set_cons_zero, List.set_cons_succ]
          refine wpAnyH_ready (rs := [5, 9]) (by kernel_rfl) (by simp) ?_
          refine AllReadyH.cons (o := _) rfl (fun K hK => ?_) ?_
          · go_simp
            refine hK.out _ _ ⟨cell_alloc _ hHeld.1, cell_alloc _ hHeld.2.1, cell_alloc _ hHeld.2.2.1, cell_alloc _ hHeld.2.2.2⟩ (fun hHeld => ?_)
            clear hK K
            try simp only [Act.put, List.setIfInBounds_toArray, List.set_cons_zero, List.set_cons_succ]
            have bB := xb_new (u1) (.cells #[.int .u8 x] 5)
            have ltbB : w2.heap.size ≤ (u1).heap.size := HB.out.size
            replace xA := cell_alloc (.cells #[.int .u8 x] 5) xA
            replace bA := xb_alloc (o' := .cells #[.int .u8 x] 5) bA
            replace HB := Lib.hid (below_alloc HB.out (.cells #[.int .u8 x] 5))
            have nbB : (u1).heap.size < ((u1).alloc (.cells #[.int .u8 x] 5)).heap.size := by rw [World.size_alloc]; exact Nat.lt_succ_self _
            generalize (u1).alloc (.cells #[.int .u8 x] 5) = u2 at *
            refine wpAnyH_ready (rs := [7, 9]) (by kernel_rfl) (by simp) ?_
            refine AllReadyH.cons (o := _) rfl (fun K hK => ?_) ?_
            · refine Kd.R_append_rows_step (Kd.int .u8) (Rr := (Kd.int .u8).K u2) (w0 := w2) w2.heap.size (by rfl) (.tmp 26) (.tmp 27) 22 5 (.int .u8 0) 1 rfl Tryd.underlying22 inf5 rfl (by decide) (by decide) (.slice (some ⟨u1.heap.size, 0, none⟩) 1 1) [x] more A0 more.length c0 (fun _ => True) (fun _ => False) rfl rfl (Ses.lit_row bB ltbB) (Kd.C_below HM.out HB.out) (fun _ _ h => h) (fun _ hk => hk.elim) (fun _ _ => trivial) HB.out HB.out.size (by simp only [List.length_cons, List.length_nil]; omega) ?_
              intro v7 u3 hR7 hB7 hg7 hat7
              obtain ⟨A7, c7, rfl, hle7, hC7⟩ := Kd.R_reads hR7
              refine hK.out _ _ ⟨(hB7.cell (p := ⟨w.heap.size, 0, none⟩) hw2).trans st0, (hB7.cell (p := ⟨w.heap.size, 1, none⟩) hw2).trans st1, (hB7.cell (p := ⟨w.heap.size, 2, none⟩) hw2).trans st2, (hB7.cell (p := ⟨w.heap.size, 3, none⟩) hw2).trans st3⟩ (fun hHeld => ?_)
              clear hK K
              try simp only [Act.put, List.setIfInBounds_toArray, List.set_cons_zero, List.set_cons_succ]
              replace HB := Lib.hid hB7
              have HV := Lib.hid hC7
              clear hR7 hB7 hg7 hat7 hC7 bB
              clear bA xA
              refine wpAnyH_ready (rs := [9]) (by kernel_rfl) (by simp) ?_
              refine AllReadyH.cons (o := _) rfl (fun K hK => ?_) ?_
              · go_simp
                refine hK.out _ _ ⟨cell_alloc _ hHeld.1, cell_alloc _ hHeld.2.1, cell_alloc _ hHeld.2.2.1, cell_alloc _ hHeld.2.2.2⟩ (fun hHeld => ?_)
                clear hK K
                try simp only [Act.put, List.setIfInBounds_toArray, List.set_cons_zero, List.set_cons_succ]
                have bC := xb_new (u3) (.cells #[.int .i64 8, .int .i64 0, .bool false, .bool false] 35)
                have ltbC : w2.heap.size ≤ (u3).heap.size := HB.out.size
                replace HV := Lib.hid (Kd.C_alloc HV.out (.cells #[.int .i64 8, .int .i64 0, .bool false, .bool false] 35))
                replace HB := Lib.hid (below_alloc HB.out (.cells #[.int .i64 8, .int .i64 0, .bool false, .bool false] 35))
                have nbC : (u3).heap.size < ((u3).alloc (.cells #[.int .i64 8, .int .i64 0, .bool false, .bool false] 35)).heap.size := by rw [World.size_alloc]; exact Nat.lt_succ_self _
                generalize (u3).alloc (.cells #[.int .i64 8, .int .i64 0, .bool false, .bool false] 35) = u4 at *
                refine wpAnyH_ready (rs := [10]) (by kernel_rfl) (by simp) ?_
                refine AllReadyH.cons (o := _) rfl (fun K hK => ?_) ?_
                · go_simp
                  go_at_call 18
                  obtain ⟨gV, oV, rfl, hgV, hcV⟩ := C_base HV.out (by simp)
                  refine (HGet.out u4 ⟨gV, oV, none⟩ _ (u3.heap.size) (fun i hi => Ses.add_cell (hcV i hi)) (xb_cell bC 0) (xb_cell bC 1) (xb_cell bC 2) (xb_cell bC 3)).mono ?_
                  rintro e u5 ⟨dA, dn, dc, g2, c2, v2, rfl, ⟨y0, y1, y3⟩, hD, hR2, hb2⟩
                  obtain ⟨A3, c3, rfl, hle3, hC3⟩ := Kd.R_reads hR2
                  injection hD with hD1 hD2 hD3; subst hD1; subst hD2; subst hD3
                  go_wp2
                  replace HB := Lib.hid (HB.out.trans (hb2.mono HB.out.size))
                  have HC3 : Hid (Kd.C (Kd.int .u8) u5 A3 more.length more) := Lib.hid hC3
                  have hle3b : more.length ≤ c3 := hle3
                  refine hK.out _ _ ⟨(HB.out.cell (p := ⟨w.heap.size, 0, none⟩) hw2).trans st0, (HB.out.cell (p := ⟨w.heap.size, 1, none⟩) hw2).trans st1, (HB.out.cell (p := ⟨w.heap.size, 2, none⟩) hw2).trans st2, (HB.out.cell (p := ⟨w.heap.size, 3, none⟩) hw2).trans st3⟩ (fun hHeld => ?_)
                  clear hK K
                  try simp only [Act.put, List.setIfInBounds_toArray, List.set_cons_zero, List.set_cons_succ]
                  clear hR2 hb2 hC3 bC HV
                  refine wpAnyH_take (i := 11) (v := ?_) rfl (by kernel_rfl) (by kernel_rfl) (by kernel_rfl) (fun _ _ _ h => h) (Or.inl ⟨by rfl, ?_⟩) (by assumption) ?_
                  rotate_left
                  · intro w hSw
                    obtain ⟨hs0, hs1, hs2, hs3⟩ := hSw
                    go_simp
                    try (with_reducible rfl)
                  try simp only [Act.put, List.setIfInBounds_toArray, List.set_cons_zero, List.set_cons_succ]
                  refine wpAnyH_take (i := 12) (v := ?_) rfl (by kernel_rfl) (by kernel_rfl) (by kernel_rfl) (fun _ _ _ h => h) (Or.inl ⟨by rfl, ?_⟩) (by assumption) ?_
                  rotate_left
                  · intro w hSw
                    obtain ⟨hs0, hs1, hs2, hs3⟩ := hSw
                    go_simp
                    try (with_reducible rfl)
                  try simp only [Act.put, List.setIfInBounds_toArray, List.set_cons_zero, List.set_cons_succ]
                  refine wpAnyH_take (i := 13) (v := ?_) rfl (by kernel_rfl) (by kernel_rfl) (by kernel_rfl) (fun _ _ _ h => h) (Or.inl ⟨by rfl, ?_⟩) (by assumption) ?_
                  rotate_left
                  · intro w hSw
                    obtain ⟨hs0, hs1, hs2, hs3⟩ := hSw
                    go_simp
                    try (with_reducible rfl)
                  try simp only [Act.put, List.setIfInBounds_toArray, List.set_cons_zero, List.set_cons_succ]
                  refine wpAnyH_take (i := 14) (v := ?_) rfl (by kernel_rfl) (by kernel_rfl) (by kernel_rfl) (fun _ _ _ h => h) (Or.inl ⟨by rfl, ?_⟩) (by assumption) ?_
                  rotate_left
                  · intro w hSw
                    obtain ⟨hs0, hs1, hs2, hs3⟩ := hSw
                    go_simp
                    try (with_reducible rfl)
                  try simp only [Act.put, List.setIfInBounds_toArray, List.set_cons_zero, List.set_cons_succ]
                  refine wpAnyH_take (i := 15) (v := ?_) rfl (by kernel_rfl) (by kernel_rfl) (by kernel_rfl) (fun _ _ _ h => h) (Or.inl ⟨by rfl, ?_⟩) (by assumption) ?_
                  rotate_left
                  · intro w hSw
                    obtain ⟨hs0, hs1, hs2, hs3⟩ := hSw
                    go_simp
                    try (with_reducible rfl)
                  try simp only [Act.put, List.setIfInBounds_toArray, List.set_cons_zero, List.set_cons_succ]
                  refine wpAnyH_done (by kernel_rfl) ?_ _
                  refine NoPanic.normal ?_
                  go_wp2_with (first | (go_at_call 19; (with_reducible refine (bytes_Equal.calls A3 c3 more A0 c0 more true _ HC3.out hle3b (Kd.C_below HM.out HB.out) hc0 hef).mono ?_); rintro e w8 ⟨rfl, n8, rfl⟩) | (go_at_call 14; (with_reducible refine (sessionLive_calls _).mono ?_); rintro e w9 ⟨rfl, hb9⟩))
                  go_ret
                  exact ⟨rfl, HBw.out.trans ((HB.out.trans ((bl_trans (bl_drewN _ n8) hb9).mono HB.out.size)).mono HBw.out.size)⟩
                exact AllReadyH.nil
              exact AllReadyH.nil
            refine AllReadyH.cons (o := _) rfl (fun K hK => ?_) ?_
            · go_simp
              refine hK.out _ _ ⟨cell_alloc _ hHeld.1, cell_alloc _ hHeld.2.1, cell_alloc _ hHeld.2.2.1, cell_alloc _ hHeld.2.2.2⟩ (fun hHeld => ?_)
              clear hK K
              try simp only [Act.put, List.setIfInBounds_toArray, List.set_cons_zero, List.set_cons_succ]
              have bC := xb_new (u2) (.cells #[.int .i64 8, .int .i64 0, .bool false, .bool false] 35)
              have ltbC : w2.heap.size ≤ (u2).heap.size := HB.out.size
              replace xA := cell_alloc (.cells #[.int .i64 8, .int .i64 0, .bool false, .bool false] 35) xA
              replace bA := xb_alloc (o' := .cells #[.int .i64 8, .int .i64 0, .bool false, .bool false] 35) bA
              replace bB := xb_alloc (o' := .cells #[.int .i64 8, .int .i64 0, .bool false, .bool false] 35) bB
              replace HB := Lib.hid (below_alloc HB.out (.cells #[.int .i64 8, .int .i64 0, .bool false, .bool false] 35))
              have nbC : (u2).heap.size < ((u2).alloc (.cells #[.int .i64 8, .int .i64 0, .bool false, .bool false] 35)).heap.size := by rw [World.size_alloc]; exact Nat.lt_succ_self _
              generalize (u2).alloc (.cells #[.int .i64 8, .int .i64 0, .bool false, .bool false] 35) = u3 at *
              refine wpAnyH_ready (rs := [7]) (by kernel_rfl) (by simp) ?_
              refine AllReadyH.cons (o := _) rfl (fun K hK => ?_) ?_
              · have hCB : u2.heap.size ≠ u1.heap.size := by omega
                refine Kd.R_append_rows_step (Kd.int .u8) (Rr := (Kd.int .u8).K u3) (w0 := w2) w2.heap.size (by rfl) (.tmp 26) (.tmp 27) 22 5 (.int .u8 0) 1 rfl Tryd.underlying22 inf5 rfl (by decide) (by decide) (.slice (some ⟨u1.heap.size, 0, none⟩) 1 1) [x] more A0 more.length c0 (fun _ => True) (fun _ => False) rfl rfl (Ses.lit_row bB ltbB) (Kd.C_below HM.out HB.out) (fun _ _ h => h) (fun _ hk => hk.elim) (fun _ _ => trivial) HB.out HB.out.size (by simp only [List.length_cons, List.length_nil]; omega) ?_
                intro v7 u4 hR7 hB7 hg7 hat7
                obtain ⟨A7, c7, rfl, hle7, hC7⟩ := Kd.R_reads hR7
                refine hK.out _ _ ⟨(hB7.cell (p := ⟨w.heap.size, 0, none⟩) hw2).trans st0, (hB7.cell (p := ⟨w.heap.size, 1, none⟩) hw2).trans st1, (hB7.cell (p := ⟨w.heap.size, 2, none⟩) hw2).trans st2, (hB7.cell (p := ⟨w.heap.size, 3, none⟩) hw2).trans st3⟩ (fun hHeld => ?_)
                clear hK K
                try simp only [Act.put, List.setIfInBounds_toArray, List.set_cons_zero, List.set_cons_succ]
                replace bC := (hg7.block (u2.heap.size) (xb_lt bC) (fun e => hCB (Option.some.inj e))).trans bC
                replace HB := Lib.hid hB7
                have HV := Lib.hid hC7
                clear hR7 hB7 hg7 hat7 hC7 bB
                clear bA xA
                refine wpAnyH_ready (rs := [10]) (by kernel_rfl) (by simp) ?_
                refine AllReadyH.cons (o := _) rfl (fun K hK => ?_) ?_
                · go_simp
                  go_at_call 18
                  obtain ⟨gV, oV, rfl, hgV, hcV⟩ := C_base HV.out (by simp)
                  refine (HGet.out u4 ⟨gV, oV, none⟩ _ (u2.heap.size) (fun i hi => Ses.add_cell (hcV i hi)) (xb_cell bC 0) (xb_cell bC 1) (xb_cell bC 2) (xb_cell bC 3)).mono ?_
                  rintro e u5 ⟨dA, dn, dc, g2, c2, v2, rfl, ⟨y0, y1, y3⟩, hD, hR2, hb2⟩
                  obtain ⟨A3, c3, rfl, hle3, hC3⟩ := Kd.R_reads hR2
                  injection hD with hD1 hD2 hD3; subst hD1; subst hD2; subst hD3
                  go_wp2
                  replace HB := Lib.hid (HB.out.trans (hb2.mono HB.out.size))
                  have HC3 : Hid (Kd.C (Kd.int .u8) u5 A3 more.length more) := Lib.hid hC3
                  have hle3b : more.length ≤ c3 := hle3
                  refine hK.out _ _ ⟨(HB.out.cell (p := ⟨w.heap.size, 0, none⟩) hw2).trans st0, (HB.out.cell (p := ⟨w.heap.size, 1, none⟩) hw2).trans st1, (HB.out.cell (p := ⟨w.heap.size, 2, none⟩) hw2).trans st2, (HB.out.cell (p := ⟨w.heap.size, 3, none⟩) hw2).trans st3⟩ (fun hHeld => ?_)
                  clear hK K
                  try simp only [Act.put, List.setIfInBounds_toArray, List.set_cons_zero, List.set_cons_succ]
                  clear hR2 hb2 hC3 bC HV
                  refine wpAnyH_take (i := 11) (v := ?_) rfl (by kernel_rfl) (by kernel_rfl) (by kernel_rfl) (fun _ _ _ h => h) (Or.inl ⟨by rfl, ?_⟩) (by assumption) ?_
                  rotate_left
                  · intro w hSw
                    obtain ⟨hs0, hs1, hs2, hs3⟩ := hSw
                    go_simp
                    try (with_reducible rfl)
                  try simp only [Act.put, List.setIfInBounds_toArray, List.set_cons_zero, List.set_cons_succ]
                  refine wpAnyH_take (i := 12) (v := ?_) rfl (by kernel_rfl) (by kernel_rfl) (by kernel_rfl) (fun _ _ _ h => h) (Or.inl ⟨by rfl, ?_⟩) (by assumption) ?_
                  rotate_left
                  · intro w hSw
                    obtain ⟨hs0, hs1, hs2, hs3⟩ := hSw
                    go_simp
                    try (with_reducible rfl)
                  try simp only [Act.put, List.setIfInBounds_toArray, List.set_cons_zero, List.set_cons_succ]
                  refine wpAnyH_take (i := 13) (v := ?_) rfl (by kernel_rfl) (by kernel_rfl) (by kernel_rfl) (fun _ _ _ h => h) (Or.inl ⟨by rfl, ?_⟩) (by assumption) ?_
                  rotate_left
                  · intro w hSw
                    obtain ⟨hs0, hs1, hs2, hs3⟩ := hSw
                    go_simp
                    try (with_reducible rfl)
                  try simp only [Act.put, List.setIfInBounds_toArray, List.set_cons_zero, List.set_cons_succ]
                  refine wpAnyH_take (i := 14) (v := ?_) rfl (by kernel_rfl) (by kernel_rfl) (by kernel_rfl) (fun _ _ _ h => h) (Or.inl ⟨by rfl, ?_⟩) (by assumption) ?_
                  rotate_left
                  · intro w hSw
                    obtain ⟨hs0, hs1, hs2, hs3⟩ := hSw
                    go_simp
                    try (with_reducible rfl)
                  try simp only [Act.put, List.setIfInBounds_toArray, List.set_cons_zero, List.set_cons_succ]
                  refine wpAnyH_take (i := 15) (v := ?_) rfl (by kernel_rfl) (by kernel_rfl) (by kernel_rfl) (fun _ _ _ h => h) (Or.inl ⟨by rfl, ?_⟩) (by assumption) ?_
                  rotate_left
                  · intro w hSw
                    obtain ⟨hs0, hs1, hs2, hs3⟩ := hSw
                    go_simp
                    try (with_reducible rfl)
                  try simp only [Act.put, List.setIfInBounds_toArray, List.set_cons_zero, List.set_cons_succ]
                  refine wpAnyH_done (by kernel_rfl) ?_ _
                  refine NoPanic.normal ?_
                  go_wp2_with (first | (go_at_call 19; (with_reducible refine (bytes_Equal.calls A3 c3 more A0 c0 more true _ HC3.out hle3b (Kd.C_below HM.out HB.out) hc0 hef).mono ?_); rintro e w8 ⟨rfl, n8, rfl⟩) | (go_at_call 14; (with_reducible refine (sessionLive_calls _).mono ?_); rintro e w9 ⟨rfl, hb9⟩))
                  go_ret
                  exact ⟨rfl, HBw.out.trans ((HB.out.trans ((bl_trans (bl_drewN _ n8) hb9).mono HB.out.size)).mono HBw.out.size)⟩
                exact AllReadyH.nil
              exact AllReadyH.nil
            exact AllReadyH.nil
          refine AllReadyH.cons (o := _) rfl (fun K hK => ?_) ?_
          · go_simp
            refine hK.out _ _ ⟨cell_alloc _ hHeld.1, cell_alloc _ hHeld.2.1, cell_alloc _ hHeld.2.2.1, cell_alloc _ hHeld.2.2.2⟩ (fun hHeld => ?_)
            clear hK K
            try simp only [Act.put, List.setIfInBounds_toArray, List.set_cons_zero, List.set_cons_succ]
            have bC := xb_new (u1) (.cells #[.int .i64 8, .int .i64 0, .bool false, .bool false] 35)
            have ltbC : w2.heap.size ≤ (u1).heap.size := HB.out.size
            replace xA := cell_alloc (.cells #[.int .i64 8, .int .i64 0, .bool false, .bool false] 35) xA
            replace bA := xb_alloc (o' := .cells #[.int .i64 8, .int .i64 0, .bool false, .bool false] 35) bA
            replace HB := Lib.hid (below_alloc HB.out (.cells #[.int .i64 8, .int .i64 0, .bool false, .bool false] 35))
            have nbC : (u1).heap.size < ((u1).alloc (.cells #[.int .i64 8, .int .i64 0, .bool false, .bool false] 35)).heap.size := by rw [World.size_alloc]; exact Nat.lt_succ_self _
            generalize (u1).alloc (.cells #[.int .i64 8, .int .i64 0, .bool false, .bool false] 35) = u2 at *
            refine wpAnyH_ready (rs := [5]) (by kernel_rfl) (by simp) ?_
            refine AllReadyH.cons (o := _) rfl (fun K hK => ?_) ?_
            · go_simp
              refine hK.out _ _ ⟨cell_alloc _ hHeld.1, cell_alloc _ hHeld.2.1, cell_alloc _ hHeld.2.2.1, cell_alloc _ hHeld.2.2.2⟩ (fun hHeld => ?_)
              clear hK K
              try simp only [Act.put, List.setIfInBounds_toArray, List.set_cons_zero, List.set_cons_succ]
              have bB := xb_new (u2) (.cells #[.int .u8 x] 5)
              have ltbB : w2.heap.size ≤ (u2).heap.size := HB.out.size
              replace xA := cell_alloc (.cells #[.int .u8 x] 5) xA
              replace bA := xb_alloc (o' := .cells #[.int .u8 x] 5) bA
              replace bC := xb_alloc (o' := .cells #[.int .u8 x] 5) bC
              replace HB := Lib.hid (below_alloc HB.out (.cells #[.int .u8 x] 5))
              have nbB : (u2).heap.size < ((u2).alloc (.cells #[.int .u8 x] 5)).heap.size := by rw [World.size_alloc]; exact Nat.lt_succ_self _
              generalize (u2).alloc (.cells #[.int .u8 x] 5) = u3 at *
              refine wpAnyH_ready (rs := [7]) (by kernel_rfl) (by simp) ?_
              refine AllReadyH.cons (o := _) rfl (fun K hK => ?_) ?_
              · have hCB : u1.heap.size ≠ u2.heap.size := by omega
                refine Kd.R_append_rows_step (Kd.int .u8) (Rr := (Kd.int .u8).K u3) (w0 := w2) w2.heap.size (by rfl) (.tmp 26) (.tmp 27) 22 5 (.int .u8 0) 1 rfl Tryd.underlying22 inf5 rfl (by decide) (by decide) (.slice (some ⟨u2.heap.size, 0, none⟩) 1 1) [x] more A0 more.length c0 (fun _ => True) (fun _ => False) rfl rfl (Ses.lit_row bB ltbB) (Kd.C_below HM.out HB.out) (fun _ _ h => h) (fun _ hk => hk.elim) (fun _ _ => trivial) HB.out HB.out.size (by simp only [List.length_cons, List.length_nil]; omega) ?_
                intro v7 u4 hR7 hB7 hg7 hat7
                obtain ⟨A7, c7, rfl, hle7, hC7⟩ := Kd.R_reads hR7
                refine hK.out _ _ ⟨(hB7.cell (p := ⟨w.heap.size, 0, none⟩) hw2).trans st0, (hB7.cell (p := ⟨w.heap.size, 1, none⟩) hw2).trans st1, (hB7.cell (p := ⟨w.heap.size, 2, none⟩) hw2).trans st2, (hB7.cell (p := ⟨w.heap.size, 3, none⟩) hw2).trans st3⟩ (fun hHeld => ?_)
                clear hK K
                try simp only [Act.put, List.setIfInBounds_toArray, List.set_cons_zero, List.set_cons_succ]
                replace bC := (hg7.block (u1.heap.size) (xb_lt bC) (fun e => hCB (Option.some.inj e))).trans bC
                replace HB := Lib.hid hB7
                have HV := Lib.hid hC7
                clear hR7 hB7 hg7 hat7 hC7 bB
                clear bA xA
                refine wpAnyH_ready (rs := [10]) (by kernel_rfl) (by simp) ?_
                refine AllReadyH.cons (o := _) rfl (fun K hK => ?_) ?_
                · go_simp
                  go_at_call 18
                  obtain ⟨gV, oV, rfl, hgV, hcV⟩ := C_base HV.out (by simp)
                  refine (HGet.out u4 ⟨gV, oV, none⟩ _ (u1.heap.size) (fun i hi => Ses.add_cell (hcV i hi)) (xb_cell bC 0) (xb_cell bC 1) (xb_cell bC 2) (xb_cell bC 3)).mono ?_
                  rintro e u5 ⟨dA, dn, dc, g2, c2, v2, rfl, ⟨y0, y1, y3⟩, hD, hR2, hb2⟩
                  obtain ⟨A3, c3, rfl, hle3, hC3⟩ := Kd.R_reads hR2
                  injection hD with hD1 hD2 hD3; subst hD1; subst hD2; subst hD3
                  go_wp2
                  replace HB := Lib.hid (HB.out.trans (hb2.mono HB.out.size))
                  have HC3 : Hid (Kd.C (Kd.int .u8) u5 A3 more.length more) := Lib.hid hC3
                  have hle3b : more.length ≤ c3 := hle3
                  refine hK.out _ _ ⟨(HB.out.cell (p := ⟨w.heap.size, 0, none⟩) hw2).trans st0, (HB.out.cell (p := ⟨w.heap.size, 1, none⟩) hw2).trans st1, (HB.out.cell (p := ⟨w.heap.size, 2, none⟩) hw2).trans st2, (HB.out.cell (p := ⟨w.heap.size, 3, none⟩) hw2).trans st3⟩ (fun hHeld => ?_)
                  clear hK K
                  try simp only [Act.put, List.setIfInBounds_toArray, List.set_cons_zero, List.set_cons_succ]
                  clear hR2 hb2 hC3 bC HV
                  refine wpAnyH_take (i := 11) (v := ?_) rfl (by kernel_rfl) (by kernel_rfl) (by kernel_rfl) (fun _ _ _ h => h) (Or.inl ⟨by rfl, ?_⟩) (by assumption) ?_
                  rotate_left
                  · intro w hSw
                    obtain ⟨hs0, hs1, hs2, hs3⟩ := hSw
                    go_simp
                    try (with_reducible rfl)
                  try simp only [Act.put, List.setIfInBounds_toArray, List.set_cons_zero, List.set_cons_succ]
                  refine wpAnyH_take (i := 12) (v := ?_) rfl (by kernel_rfl) (by kernel_rfl) (by kernel_rfl) (fun _ _ _ h => h) (Or.inl ⟨by rfl, ?_⟩) (by assumption) ?_
                  rotate_left
                  · intro w hSw
                    obtain ⟨hs0, hs1, hs2, hs3⟩ := hSw
                    go_simp
                    try (with_reducible rfl)
                  try simp only [Act.put, List.setIfInBounds_toArray, List.set_cons_zero, List.set_cons_succ]
                  refine wpAnyH_take (i := 13) (v := ?_) rfl (by kernel_rfl) (by kernel_rfl) (by kernel_rfl) (fun _ _ _ h => h) (Or.inl ⟨by rfl, ?_⟩) (by assumption) ?_
                  rotate_left
                  · intro w hSw
                    obtain ⟨hs0, hs1, hs2, hs3⟩ := hSw
                    go_simp
                    try (with_reducible rfl)
                  try simp only [Act.put, List.setIfInBounds_toArray, List.set_cons_zero, List.set_cons_succ]
                  refine wpAnyH_take (i := 14) (v := ?_) rfl (by kernel_rfl) (by kernel_rfl) (by kernel_rfl) (fun _ _ _ h => h) (Or.inl ⟨by rfl, ?_⟩) (by assumption) ?_
                  rotate_left
                  · intro w hSw
                    obtain ⟨hs0, hs1, hs2, hs3⟩ := hSw
                    go_simp
                    try (with_reducible rfl)
                  try simp only [Act.put, List.setIfInBounds_toArray, List.set_cons_zero, List.set_cons_succ]
                  refine wpAnyH_take (i := 15) (v := ?_) rfl (by kernel_rfl) (by kernel_rfl) (by kernel_rfl) (fun _ _ _ h => h) (Or.inl ⟨by rfl, ?_⟩) (by assumption) ?_
                  rotate_left
                  · intro w hSw
                    obtain ⟨hs0, hs1, hs2, hs3⟩ := hSw
                    go_simp
                    try (with_reducible rfl)
                  try simp only [Act.put, List.setIfInBounds_toArray, List.set_cons_zero, List.set_cons_succ]
                  refine wpAnyH_done (by kernel_rfl) ?_ _
                  refine NoPanic.normal ?_
                  go_wp2_with (first | (go_at_call 19; (with_reducible refine (bytes_Equal.calls A3 c3 more A0 c0 more true _ HC3.out hle3b (Kd.C_below HM.out HB.out) hc0 hef).mono ?_); rintro e w8 ⟨rfl, n8, rfl⟩) | (go_at_call 14; (with_reducible refine (sessionLive_calls _).mono ?_); rintro e w9 ⟨rfl, hb9⟩))
                  go_ret
                  exact ⟨rfl, HBw.out.trans ((HB.out.trans ((bl_trans (bl_drewN _ n8) hb9).mono HB.out.size)).mono HBw.out.size)⟩
                exact AllReadyH.nil
              exact AllReadyH.nil
            exact AllReadyH.nil
          exact AllReadyH.nil
        refine AllReadyH.cons (o := _) rfl (fun K hK => ?_) ?_
        · go_simp
          refine hK.out _ _ ⟨cell_alloc _ hHeld.1, cell_alloc _ hHeld.2.1, cell_alloc _ hHeld.2.2.1, cell_alloc _ hHeld.2.2.2⟩ (fun hHeld => ?_)
          clear hK K
          try simp only [Act.put, List.setIfInBounds_toArray, List.set_cons_zero, List.set_cons_succ]
          have bC := xb_new (u1) (.cells #[.int .i64 8, .int .i64 0, .bool false, .bool false] 35)
          have ltbC : w2.heap.size ≤ (u1).heap.size := HB.out.size
          replace xA := cell_alloc (.cells #[.int .i64 8, .int .i64 0, .bool false, .bool false] 35) xA
          replace bA := xb_alloc (o' := .cells #[.int .i64 8, .int .i64 0, .bool false, .bool false] 35) bA
          replace HB := Lib.hid (below_alloc HB.out (.cells #[.int .i64 8, .int .i64 0, .bool false, .bool false] 35))
          have nbC : (u1).heap.size < ((u1).alloc (.cells #[.int .i64 8, .int .i64 0, .bool false, .bool false] 35)).heap.size := by rw [World.size_alloc]; exact Nat.lt_succ_self _
          generalize (u1).alloc (.cells #[.int .i64 8, .int .i64 0, .bool false, .bool false] 35) = u2 at *
          refine wpAnyH_ready (rs := [4]) (by kernel_rfl) (by simp) ?_
          refine AllReadyH.cons (o := _) rfl (fun K hK => ?_) ?_
          · go_simp
            refine hK.out _ _ hHeld (fun hHeld => ?_)
            clear hK K
            try simp only [Act.put, List.setIfInBounds_toArray, List.set_cons_zero, List.set_cons_succ]
            refine wpAnyH_ready (rs := [5]) (by kernel_rfl) (by simp) ?_
            refine AllReadyH.cons (o := _) rfl (fun K hK => ?_) ?_
            · go_simp
              refine hK.out _ _ ⟨cell_alloc _ hHeld.1, cell_alloc _ hHeld.2.1, cell_alloc _ hHeld.2.2.1, cell_alloc _ hHeld.2.2.2⟩ (fun hHeld => ?_)
              clear hK K
              try simp only [Act.put, List.setIfInBounds_toArray, List.set_cons_zero, List.set_cons_succ]
              have bB := xb_new (u2) (.cells #[.int .u8 x] 5)
              have ltbB : w2.heap.size ≤ (u2).heap.size := HB.out.size
              replace xA := cell_alloc (.cells #[.int .u8 x] 5) xA
              replace bA := xb_alloc (o' := .cells #[.int .u8 x] 5) bA
              replace bC := xb_alloc (o' := .cells #[.int .u8 x] 5) bC
              replace HB := Lib.hid (below_alloc HB.out (.cells #[.int .u8 x] 5))
              have nbB : (u2).heap.size < ((u2).alloc (.cells #[.int .u8 x] 5)).heap.size := by rw [World.size_alloc]; exact Nat.lt_succ_self _
              generalize (u2).alloc (.cells #[.int .u8 x] 5) = u3 at *
              refine wpAnyH_ready (rs := [7]) (by kernel_rfl) (by simp) ?_
              refine AllReadyH.cons (o := _) rfl (fun K hK => ?_) ?_
              · have hCB : u1.heap.size ≠ u2.heap.size := by omega
                refine Kd.R_append_rows_step (Kd.int .u8) (Rr := (Kd.int .u8).K u3) (w0 := w2) w2.heap.size (by rfl) (.tmp 26) (.tmp 27) 22 5 (.int .u8 0) 1 rfl Tryd.underlying22 inf5 rfl (by decide) (by decide) (.slice (some ⟨u2.heap.size, 0, none⟩) 1 1) [x] more A0 more.length c0 (fun _ => True) (fun _ => False) rfl rfl (Ses.lit_row bB ltbB) (Kd.C_below HM.out HB.out) (fun _ _ h => h) (fun _ hk => hk.elim) (fun _ _ => trivial) HB.out HB.out.size (by simp only [List.length_cons, List.length_nil]; omega) ?_
                intro v7 u4 hR7 hB7 hg7 hat7
                obtain ⟨A7, c7, rfl, hle7, hC7⟩ := Kd.R_reads hR7
                refine hK.out _ _ ⟨(hB7.cell (p := ⟨w.heap.size, 0, none⟩) hw2).trans st0, (hB7.cell (p := ⟨w.heap.size, 1, none⟩) hw2).trans st1, (hB7.cell (p := ⟨w.heap.size, 2, none⟩) hw2).trans st2, (hB7.cell (p := ⟨w.heap.size, 3, none⟩) hw2).trans st3⟩ (fun hHeld => ?_)
                clear hK K
                try simp only [Act.put, List.setIfInBounds_toArray, List.set_cons_zero, List.set_cons_succ]
                replace bC := (hg7.block (u1.heap.size) (xb_lt bC) (fun e => hCB (Option.some.inj e))).trans bC
                replace HB := Lib.hid hB7
                have HV := Lib.hid hC7
                clear hR7 hB7 hg7 hat7 hC7 bB
                clear bA xA
                refine wpAnyH_ready (rs := [10]) (by kernel_rfl) (by simp) ?_
                refine AllReadyH.cons (o := _) rfl (fun K hK => ?_) ?_
                · go_simp
                  go_at_call 18
                  obtain ⟨gV, oV, rfl, hgV, hcV⟩ := C_base HV.out (by simp)
                  refine (HGet.out u4 ⟨gV, oV, none⟩ _ (u1.heap.size) (fun i hi => Ses.add_cell (hcV i hi)) (xb_cell bC 0) (xb_cell bC 1) (xb_cell bC 2) (xb_cell bC 3)).mono ?_
                  rintro e u5 ⟨dA, dn, dc, g2, c2, v2, rfl, ⟨y0, y1, y3⟩, hD, hR2, hb2⟩
                  obtain ⟨A3, c3, rfl, hle3, hC3⟩ := Kd.R_reads hR2
                  injection hD with hD1 hD2 hD3; subst hD1; subst hD2; subst hD3
                  go_wp2
                  replace HB := Lib.hid (HB.out.trans (hb2.mono HB.out.size))
                  have HC3 : Hid (Kd.C (Kd.int .u8) u5 A3 more.length more) := Lib.hid hC3
                  have hle3b : more.length ≤ c3 := hle3
                  refine hK.out _ _ ⟨(HB.out.cell (p := ⟨w.heap.size, 0, none⟩) hw2).trans st0, (HB.out.cell (p := ⟨w.heap.size, 1, none⟩) hw2).trans st1, (HB.out.cell (p := ⟨w.heap.size, 2, none⟩) hw2).trans st2, (HB.out.cell (p := ⟨w.heap.size, 3, none⟩) hw2).trans st3⟩ (fun hHeld => ?_)
                  clear hK K
                  try simp only [Act.put, List.setIfInBounds_toArray, List.set_cons_zero, List.set_cons_succ]
                  clear hR2 hb2 hC3 bC HV
                  refine wpAnyH_take (i := 11) (v := ?_) rfl (by kernel_rfl) (by kernel_rfl) (by kernel_rfl) (fun _ _ _ h => h) (Or.inl ⟨by rfl, ?_⟩) (by assumption) ?_
                  rotate_left
                  · intro w hSw
                    obtain ⟨hs0, hs1, hs2, hs3⟩ := hSw
                    go_simp
                    try (with_reducible rfl)
                  try simp only [Act.put, List.setIfInBounds_toArray, List.set_cons_zero, List.set_cons_succ]
                  refine wpAnyH_take (i := 12) (v := ?_) rfl (by kernel_rfl) (by kernel_rfl) (by kernel_rfl) (fun _ _ _ h => h) (Or.inl ⟨by rfl, ?_⟩) (by assumption) ?_
                  rotate_left
                  · intro w hSw
                    obtain ⟨hs0, hs1, hs2, hs3⟩ := hSw
                    go_simp
                    try (with_reducible rfl)
                  try simp only [Act.put, List.setIfInBounds_toArray, List.set_cons_zero, List.set_cons_succ]
                  refine wpAnyH_take (i := 13) (v := ?_) rfl (by kernel_rfl) (by kernel_rfl) (by kernel_rfl) (fun _ _ _ h => h) (Or.inl ⟨by rfl, ?_⟩) (by assumption) ?_
                  rotate_left
                  · intro w hSw
                    obtain ⟨hs0, hs1, hs2, hs3⟩ := hSw
                    go_simp
                    try (with_reducible rfl)
                  try simp only [Act.put, List.setIfInBounds_toArray, List.set_cons_zero, List.set_cons_succ]
                  refine wpAnyH_take (i := 14) (v := ?_) rfl (by kernel_rfl) (by kernel_rfl) (by kernel_rfl) (fun _ _ _ h => h) (Or.inl ⟨by rfl, ?_⟩) (by assumption) ?_
                  rotate_left
                  · intro w hSw
                    obtain ⟨hs0, hs1, hs2, hs3⟩ := hSw
                    go_simp
                    try (with_reducible rfl)
                  try simp only [Act.put, List.setIfInBounds_toArray, List.set_cons_zero, List.set_cons_succ]
                  refine wpAnyH_take (i := 15) (v := ?_) rfl (by kernel_rfl) (by kernel_rfl) (by kernel_rfl) (fun _ _ _ h => h) (Or.inl ⟨by rfl, ?_⟩) (by assumption) ?_
                  rotate_left
                  · intro w hSw
                    obtain ⟨hs0, hs1, hs2, hs3⟩ := hSw
                    go_simp
                    try (with_reducible rfl)
                  try simp only [Act.put, List.setIfInBounds_toArray, List.set_cons_zero, List.set_cons_succ]
                  refine wpAnyH_done (by kernel_rfl) ?_ _
                  refine NoPanic.normal ?_
                  go_wp2_with (first | (go_at_call 19; (with_reducible refine (bytes_Equal.calls A3 c3 more A0 c0 more true _ HC3.out hle3b (Kd.C_below HM.out HB.out) hc0 hef).mono ?_); rintro e w8 ⟨rfl, n8, rfl⟩) | (go_at_call 14; (with_reducible refine (sessionLive_calls _).mono ?_); rintro e w9 ⟨rfl, hb9⟩))
                  go_ret
                  exact ⟨rfl, HBw.out.trans ((HB.out.trans ((bl_trans (bl_drewN _ n8) hb9).mono HB.out.size)).mono HBw.out.size)⟩
                exact AllReadyH.nil
              exact AllReadyH.nil
            exact AllReadyH.nil
          exact AllReadyH.nil
        exact AllReadyH.nil
      refine AllReadyH.cons (o := _) rfl (fun K hK => ?_) ?_
      · go_simp
        refine hK.out _ _ ⟨cell_alloc _ hHeld.1, cell_alloc _ hHeld.2.1, cell_alloc _ hHeld.2.2.1, cell_alloc _ hHeld.2.2.2⟩ (fun hHeld => ?_)
        clear hK K
        try simp only [Act.put, List.setIfInBounds_toArray, List.set_cons_zero, List.set_cons_succ]
        have bC := xb_new (u0) (.cells #[.int .i64 8, .int .i64 0, .bool false, .bool false] 35)
        have ltbC : w2.heap.size ≤ (u0).heap.size := HB.out.size
        replace HB := Lib.hid (below_alloc HB.out (.cells #[.int .i64 8, .int .i64 0, .bool false, .bool false] 35))
        have nbC : (u0).heap.size < ((u0).alloc (.cells #[.int .i64 8, .int .i64 0, .bool false, .bool false] 35)).heap.size := by rw [World.size_alloc]; exact Nat.lt_succ_self _
        generalize (u0).alloc (.cells #[.int .i64 8, .int .i64 0, .bool false, .bool false] 35) = u1 at *
        refine wpAnyH_ready (rs := [0]) (by kernel_rfl) (by simp) ?_
        refine AllReadyH.cons (o := _) rfl (fun K hK => ?_) ?_
        · go_simp
          refine hK.out _ _ ⟨cell_alloc _ hHeld.1, cell_alloc _ hHeld.2.1, cell_alloc _ hHeld.2.2.1, cell_alloc _ hHeld.2.2.2⟩ (fun hHeld => ?_)
          clear hK K
          try simp only [Act.put, List.setIfInBounds_toArray, List.set_cons_zero, List.set_cons_succ]
          have bA := xb_new (u1) (.cells #[.int .u8 0, .int .u8 253, .int .u8 255] 5)
          have ltbA : w2.heap.size ≤ (u1).heap.size := HB.out.size
          replace bC := xb_alloc (o' := .cells #[.int .u8 0, .int .u8 253, .int .u8 255] 5) bC
          replace HB := Lib.hid (below_alloc HB.out (.cells #[.int .u8 0, .int .u8 253, .int .u8 255] 5))
          have nbA : (u1).heap.size < ((u1).alloc (.cells #[.int .u8 0, .int .u8 253, .int .u8 255] 5)).heap.size := by rw [World.size_alloc]; exact Nat.lt_succ_self _
          generalize (u1).alloc (.cells #[.int .u8 0, .int .u8 253, .int .u8 255] 5) = u2 at *
          have xA := (xb_cell bA (k.tmod 3).toNat).trans hr
          refine wpAnyH_take (i := 3) (v := ?_) rfl (by kernel_rfl) (by kernel_rfl) (by kernel_rfl) (fun _ _ _ h => h) (Or.inl ⟨by rfl, ?_⟩) (by assumption) ?_
          rotate_left
          · intro w hSw
            obtain ⟨hs0, hs1, hs2, hs3⟩ := hSw
            go_simp
            try (with_reducible rfl)
          try simp only [Act.put, List.setIfInBounds_toArray, List.set_cons_zero, List.set_cons_succ]
          refine wpAnyH_ready (rs := [4]) (by kernel_rfl) (by simp) ?_
          refine AllReadyH.cons (o := _) rfl (fun K hK => ?_) ?_
          · go_simp
            refine hK.out _ _ hHeld (fun hHeld => ?_)
            clear hK K
            try simp only [Act.put, List.setIfInBounds_toArray, List.set_cons_zero, List.set_cons_succ]
            refine wpAnyH_ready (rs := [5]) (by kernel_rfl) (by simp) ?_
            refine AllReadyH.cons (o := _) rfl (fun K hK => ?_) ?_
            · go_simp
              refine hK.out _ _ ⟨cell_alloc _ hHeld.1, cell_alloc _ hHeld.2.1, cell_alloc _ hHeld.2.2.1, cell_alloc _ hHeld.2.2.2⟩ (fun hHeld => ?_)
              clear hK K
              try simp only [Act.put, List.setIfInBounds_toArray, List.set_cons_zero, List.set_cons_succ]
              have bB := xb_new (u2) (.cells #[.int .u8 x] 5)
              have ltbB : w2.heap.size ≤ (u2).heap.size := HB.out.size
              replace bC := xb_alloc (o' := .cells #[.int .u8 x] 5) bC
              replace xA := cell_alloc (.cells #[.int .u8 x] 5) xA
              replace bA := xb_alloc (o' := .cells #[.int .u8 x] 5) bA
              replace HB := Lib.hid (below_alloc HB.out (.cells #[.int .u8 x] 5))
              have nbB : (u2).heap.size < ((u2).alloc (.cells #[.int .u8 x] 5)).heap.size := by rw [World.size_alloc]; exact Nat.lt_succ_self _
              generalize (u2).alloc (.cells #[.int .u8 x] 5) = u3 at *
              refine wpAnyH_ready (rs := [7]) (by kernel_rfl) (by simp) ?_
              refine AllReadyH.cons (o := _) rfl (fun K hK => ?_) ?_
              · have hCB : u0.heap.size ≠ u2.heap.size := by omega
                refine Kd.R_append_rows_step (Kd.int .u8) (Rr := (Kd.int .u8).K u3) (w0 := w2) w2.heap.size (by rfl) (.tmp 26) (.tmp 27) 22 5 (.int .u8 0) 1 rfl Tryd.underlying22 inf5 rfl (by decide) (by decide) (.slice (some ⟨u2.heap.size, 0, none⟩) 1 1) [x] more A0 more.length c0 (fun _ => True) (fun _ => False) rfl rfl (Ses.lit_row bB ltbB) (Kd.C_below HM.out HB.out) (fun _ _ h => h) (fun _ hk => hk.elim) (fun _ _ => trivial) HB.out HB.out.size (by simp only [List.length_cons, List.length_nil]; omega) ?_
                intro v7 u4 hR7 hB7 hg7 hat7
                obtain ⟨A7, c7, rfl, hle7, hC7⟩ := Kd.R_reads hR7
                refine hK.out _ _ ⟨(hB7.cell (p := ⟨w.heap.size, 0, none⟩) hw2).trans st0, (hB7.cell (p := ⟨w.heap.size, 1, none⟩) hw2).trans st1, (hB7.cell (p := ⟨w.heap.size, 2, none⟩) hw2).trans st2, (hB7.cell (p := ⟨w.heap.size, 3, none⟩) hw2).trans st3⟩ (fun hHeld => ?_)
                clear hK K
                try simp only [Act.put, List.setIfInBounds_toArray, List.set_cons_zero, List.set_cons_succ]
                replace bC := (hg7.block (u0.heap.size) (xb_lt bC) (fun e => hCB (Option.some.inj e))).trans bC
                replace HB := Lib.hid hB7
                have HV := Lib.hid hC7
                clear hR7 hB7 hg7 hat7 hC7 bB
                clear bA xA
                refine wpAnyH_ready (rs := [10]) (by kernel_rfl) (by simp) ?_
                refine AllReadyH.cons (o := _) rfl (fun K hK => ?_) ?_
                · go_simp
                  go_at_call 18
                  obtain ⟨gV, oV, rfl, hgV, hcV⟩ := C_base HV.out (by simp)
                  refine (HGet.out u4 ⟨gV, oV, none⟩ _ (u0.heap.size) (fun i hi => Ses.add_cell (hcV i hi)) (xb_cell bC 0) (xb_cell bC 1) (xb_cell bC 2) (xb_cell bC 3)).mono ?_
                  rintro e u5 ⟨dA, dn, dc, g2, c2, v2, rfl, ⟨y0, y1, y3⟩, hD, hR2, hb2⟩
                  obtain ⟨A3, c3, rfl, hle3, hC3⟩ := Kd.R_reads hR2
                  injection hD with hD1 hD2 hD3; subst hD1; subst hD2; subst hD3
                  go_wp2
                  replace HB := Lib.hid (HB.out.trans (hb2.mono HB.out.size))
                  have HC3 : Hid (Kd.C (Kd.int .u8) u5 A3 more.length more) := Lib.hid hC3
                  have hle3b : more.length ≤ c3 := hle3
                  refine hK.out _ _ ⟨(HB.out.cell (p := ⟨w.heap.size, 0, none⟩) hw2).trans st0, (HB.out.cell (p := ⟨w.heap.size, 1, none⟩) hw2).trans st1, (HB.out.cell (p := ⟨w.heap.size, 2, none⟩) hw2).trans st2, (HB.out.cell (p := ⟨w.heap.size, 3, none⟩) hw2).trans st3⟩ (fun hHeld => ?_)
                  clear hK K
                  try simp only [Act.put, List.setIfInBounds_toArray, List.set_cons_zero, List.set_cons_succ]
                  clear hR2 hb2 hC3 bC HV
                  refine wpAnyH_take (i := 11) (v := ?_) rfl (by kernel_rfl) (by kernel_rfl) (by kernel_rfl) (fun _ _ _ h => h) (Or.inl ⟨by rfl, ?_⟩) (by assumption) ?_
                  rotate_left
                  · intro w hSw
                    obtain ⟨hs0, hs1, hs2, hs3⟩ := hSw
                    go_simp
                    try (with_reducible rfl)
                  try simp only [Act.put, List.setIfInBounds_toArray, List.set_cons_zero, List.set_cons_succ]
                  refine wpAnyH_take (i := 12) (v := ?_) rfl (by kernel_rfl) (by kernel_rfl) (by kernel_rfl) (fun _ _ _ h => h) (Or.inl ⟨by rfl, ?_⟩) (by assumption) ?_
                  rotate_left
                  · intro w hSw
                    obtain ⟨hs0, hs1, hs2, hs3⟩ := hSw
                    go_simp
                    try (with_reducible rfl)
                  try simp only [Act.put, List.setIfInBounds_toArray, List.set_cons_zero, List.set_cons_succ]
                  refine wpAnyH_take (i := 13) (v := ?_) rfl (by kernel_rfl) (by kernel_rfl) (by kernel_rfl) (fun _ _ _ h => h) (Or.inl ⟨by rfl, ?_⟩) (by assumption) ?_
                  rotate_left
                  · intro w hSw
                    obtain ⟨hs0, hs1, hs2, hs3⟩ := hSw
                    go_simp
                    try (with_reducible rfl)
                  try simp only [Act.put, List.setIfInBounds_toArray, List.set_cons_zero, List.set_cons_succ]
                  refine wpAnyH_take (i := 14) (v := ?_) rfl (by kernel_rfl) (by kernel_rfl) (by kernel_rfl) (fun _ _ _ h => h) (Or.inl ⟨by rfl, ?_⟩) (by assumption) ?_
                  rotate_left
                  · intro w hSw
                    obtain ⟨hs0, hs1, hs2, hs3⟩ := hSw
                    go_simp
                    try (with_reducible rfl)
                  try simp only [Act.put, List.setIfInBounds_toArray, List.set_cons_zero, List.set_cons_succ]
                  refine wpAnyH_take (i := 15) (v := ?_) rfl (by kernel_rfl) (by kernel_rfl) (by kernel_rfl) (fun _ _ _ h => h) (Or.inl ⟨by rfl, ?_⟩) (by assumption) ?_
                  rotate_left
                  · intro w hSw
                    obtain ⟨hs0, hs1, hs2, hs3⟩ := hSw
                    go_simp
                    try (with_reducible rfl)
                  try simp only [Act.put, List.setIfInBounds_toArray, List.set_cons_zero, List.set_cons_succ]
                  refine wpAnyH_done (by kernel_rfl) ?_ _
                  refine NoPanic.normal ?_
                  go_wp2_with (first | (go_at_call 19; (with_reducible refine (bytes_Equal.calls A3 c3 more A0 c0 more true _ HC3.out hle3b (Kd.C_below HM.out HB.out) hc0 hef).mono ?_); rintro e w8 ⟨rfl, n8, rfl⟩) | (go_at_call 14; (with_reducible refine (sessionLive_calls _).mono ?_); rintro e w9 ⟨rfl, hb9⟩))
                  go_ret
                  exact ⟨rfl, HBw.out.trans ((HB.out.trans ((bl_trans (bl_drewN _ n8) hb9).mono HB.out.size)).mono HBw.out.size)⟩
                exact AllReadyH.nil
              exact AllReadyH.nil
            exact AllReadyH.nil
          exact AllReadyH.nil
        exact AllReadyH.nil
      exact AllReadyH.nil
  · cases h
end Go.Proofs.YtdnahdddkagfhaaDoor.X
