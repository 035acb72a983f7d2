/- The law FnSessionMinusBack: a compressed number and the negative one are read as numbers whose sum is 0. -/
import Derived.Test.YtdnahdddkagfhaaDoorMa
namespace Go.Proofs.YtdnahdddkagfhaaDoor.X
open Go.RowKit Go.Proofs.YtdnahdddkagfhaaDoorW.PrintWords Go.Proofs.YtdnahdddkagfhaaDoorW.PrintLast Go.Proofs.YtdnahdddkagfhaaDoorW.PrintMore
attribute [local go_sem] setCell_drewN alloc_drewN
set_option linter.unusedVariables false
set_option linter.unusedSimpArgs false
theorem Ses.orB : ∀ m : Fin 9, Go.bits .or .u8 (m.val : Int) 128 = 128 + (m.val : Int) := by decide +kernel
theorem Ses.add_cellB {w : World} {g i : Nat} {v : Value} (h : w.cell? ⟨g, i, none⟩ = some v) : w.cell? ((⟨g, 0, none⟩ : Addr).add i) = some v := by
  unfold Addr.add
  split
  · rename_i hz
    have hz' : i = 0 := by simpa using hz
    subst hz'
    exact h
  · simpa using h
theorem Ses.row_cellsB {w : World} {base g n cap : Nat} {ok : Nat → Prop} {rr : List Int} (hR : Kd.R (Kd.int .u8) 5 w base ok (.slice (some ⟨g, 0, none⟩) n cap) rr) :
    ∀ i : Nat, i < n → w.cell? ⟨g, i, none⟩ = some (.int .u8 (rr.getD i 0)) := by
  intro i hi
  have hc := (Kd.R_celln (enc := Value.int .u8) (h1 := fun _ => rfl) (0 : Int) hR (i : Int) (by omega) (by omega)).1
  have e : rdOf (0 : Int) rr (i : Int) = rr.getD i 0 := by unfold rdOf; rw [Int.toNat_natCast]
  rw [e, Int.toNat_natCast] at hc
  exact hc
theorem Ses.put_firstB {w : World} {base g n cap : Nat} {rr l : List Int} {u : Int} (hR : Kd.R (Kd.int .u8) 5 w base (fun _ => True) (.slice (some ⟨g, 0, none⟩) n cap) rr) (hset : rr.set 0 u = l) :
    ∀ i : Nat, i < n → (w.setCell ⟨g, 0, none⟩ (.int .u8 u)).cell? ⟨g, i, none⟩ = some (.int .u8 (l.getD i 0)) := by
  intro i hi
  have hp := Kd.R_putn (enc := Value.int .u8) (h1 := fun _ => rfl) hR (0 : Int) u
  have hc := Ses.row_cellsB hp i hi
  rw [show rr.set (0 : Int).toNat u = l from hset] at hc
  exact hc
def laws_FnSessionMinusBack.f (n : Int) (l : List Int) : Option Bool := if 0 ≤ n ∧ n < 18446744073709551616 ∧ (∀ x ∈ l, 0 ≤ x ∧ x ≤ 255) ∧ l.length ≤ 140737488351232 then some true else none
set_option maxHeartbeats 16000000 in
set_option maxRecDepth 100000 in
theorem laws_FnSessionMinusBack.calls (n : Int) (A0 : Option Addr) (c0 : Nat) (more : List Int) (r : Bool) (w : World) (hr0 : Kd.C (Kd.int .u8) w A0 more.length more) (hc0 : more.length ≤ c0) (h : laws_FnSessionMinusBack.f n more = some r) :
    Calls Tryd.prog 11 #[.int .u64 n, .slice A0 more.length c0] w fun e w' => e = .returned (.bool r) ∧ Below w.heap.size w w' := by
  unfold laws_FnSessionMinusBack.f at h
  split at h
  · rename_i hsz
    obtain ⟨z0, z1, hby, z2⟩ := hsz
    obtain rfl := Option.some.inj h
    clear h
    have HR := Lib.hid hr0
    clear hr0
    by_cases g0 : (more.length : Int) > 2147483647
    · have t0 : decide ((more.length : Int) > 2147483647) = true := decide_eq_true g0
      clear g0
      go_enter Tryd.func11, Tryd.ntmps11
      go_wp2
      go_ret
      exact ⟨rfl, Below.refl _ _⟩
    have t0 : decide ((more.length : Int) > 2147483647) = false := decide_eq_false g0
    have hand := Ses.and63 n z0 z1
    have hN0 : 0 ≤ n % 9223372036854775808 := by omega
    have hN2 : n % 9223372036854775808 < 9223372036854775808 := by omega
    have hN1 : n % 9223372036854775808 < 256 ^ 8 := by have : (256 : Int) ^ 8 = 18446744073709551616 := by decide
                                                       omega
    by_cases g1 : (more.length : Int) > 1000
    · have t1 : decide ((more.length : Int) > 1000) = true := decide_eq_true g1
      clear g0 g1
      go_enter Tryd.func11, Tryd.ntmps11
      go_wp2_with (go_at_call 14; (with_reducible refine (sessionLive_calls _).mono ?_); rintro e w3 ⟨rfl, hb⟩)
      go_ret
      exact ⟨rfl, hb⟩
    have t1 : decide ((more.length : Int) > 1000) = false := decide_eq_false g1
    have hm : more.length ≤ 1000 := by omega
    have hef : bytes_Equal.f more more = some true := by simp [bytes_Equal.f]
    clear g0 g1
    obtain ⟨ds, d1, d2, d3, d4, kk, hf⟩ := Ses.packed_f _ hN0 hN1
    generalize n % 9223372036854775808 = N at *
    have s0 : N + -N = 0 := by omega
    have s1 : (N ≥ 0) = True := eq_true hN0
    have hor := Ses.orB ⟨ds.length, by omega⟩
    simp only at hor
    obtain ⟨rr, hrr⟩ : ∃ rr, rr = (ds.length : Int) :: ds.reverse := ⟨_, rfl⟩
    obtain ⟨rb, hrb⟩ : ∃ rb, rb = (128 + (ds.length : Int)) :: ds.reverse := ⟨_, rfl⟩
    rw [← hrr] at hf
    have hset : rr.set 0 (128 + (ds.length : Int)) = rb := by rw [hrr, hrb]; rfl
    have hrd : rdOf (0 : Int) rr 0 = (ds.length : Int) := by rw [hrr]; rfl
    have hlr : rr.length = ds.length + 1 := by rw [hrr]; simp
    have hlb : rb.length = ds.length + 1 := by rw [hrb]; simp
    obtain ⟨l, hl⟩ : ∃ l, l = rr ++ rb ++ more := ⟨_, rfl⟩
    have hll : l.length = (ds.length + 1) + (ds.length + 1) + more.length := by rw [hl, List.length_append, List.length_append, hlr, hlb]
    have hbl : ∀ y ∈ l, 0 ≤ y ∧ y ≤ 255 := by
      intro y hy
      rw [hl, List.append_assoc, hrr, hrb] at hy
      simp only [List.mem_append, List.mem_cons, List.mem_reverse] at hy
      rcases hy with (rfl | hy) | (rfl | hy) | hy
      · omega
      · exact d2 y hy
      · omega
      · exact d2 y hy
      · exact hby y hy
    have hx0 : l.getD 0 0 = (ds.length : Int) := by rw [hl, hrr]; rfl
    have hl1 : l.drop (ds.length + 1) = rb ++ more := by rw [hl, List.append_assoc, ← hlr, List.drop_left]
    have hx1 : l.getD (ds.length + 1) 0 = 128 + (ds.length : Int) := by
      have e : l.getD (ds.length + 1) 0 = (l.drop (ds.length + 1)).getD 0 0 := by simp only [List.getD_eq_getElem?_getD, List.getElem?_drop, Nat.add_zero]
      rw [e, hl1, hrb]
      rfl
    have hd0 : (l.drop (0 + 1)).take ds.length = ds.reverse := by
      rw [hl, hrr]
      show List.take ds.length (ds.reverse ++ rb ++ more) = _
      rw [List.append_assoc, show ds.length = ds.reverse.length from List.length_reverse.symm, List.take_left]
    have hd1 : (l.drop (ds.length + 1 + 1)).take ds.length = ds.reverse := by
      rw [← List.drop_drop, hl1, hrb]
      show List.take ds.length (ds.reverse ++ more) = _
      rw [show ds.length = ds.reverse.length from List.length_reverse.symm, List.take_left]
    have hdr : l.drop (ds.length + 1 + 1 + ds.length) = more := by
      rw [show ds.length + 1 + 1 + ds.length = rr.length + rb.length by omega, hl, ← List.length_append, List.drop_left]
    have hG1 := fun (W : World) (b g c : Nat) h => got5_plus N ds d1 d2 d3 ⟨hN0, hN2⟩ W b g c l 0 hx0 (by omega) hd0 hbl h
    have hG2 := fun (W : World) (b g c : Nat) h => got5_minus N ds d1 d2 d3 ⟨hN0, hN2⟩ W b g c l (ds.length + 1) hx1 (by omega) hd1 hbl h
    rw [show 0 + 1 + ds.length = ds.length + 1 by omega] at hG1
    have hgo := fun (W : World) (a : Addr) (cI g0 : Nat) hin s0 s1 s2 s3 s4 s5 s6 s7 => get_two 5 8 false true false l (ds.length + 1) (ds.length + 1 + 1 + ds.length) N (-N) (by omega) (by omega) (by omega) hG1 hG2 W a cI g0 hin s0 s1 s2 s3 s4 s5 s6 s7
    have hcat := fun (A B : Option Addr) (cA cB : Nat) (W : World) (g0 : Nat) => concat3 W g0 A B A0 cA cB c0 rr rb more
    rw [hdr] at hgo
    rw [← hl, hlr, hlb] at hcat
    clear hG1 hG2 hdr hd0 hd1 hx0 hx1 hl1 hbl hby hN1 d2 d3 d4
    have HPk := Lib.hid (fun W => ZM.spec_SessionPacked.calls kk N rr W hf)
    generalize ds.length = m at *
    have hcat2 := fun (A B : Option Addr) (cA cB : Nat) (W : World) (g0 : Nat) s0 s1 s2 h0 h1 h2 => hcat A B cA cB W g0 s0 s1 s2 h0 h1 h2 (by omega) (by omega)
    obtain ⟨LL, hLL⟩ : ∃ LL, LL = l.length := ⟨_, rfl⟩
    rw [← hLL] at hgo
    have HLl : Hid (l.length = LL) := Lib.hid hLL.symm
    have hLp : 0 < LL := by omega
    have HGet := Lib.hid hgo
    have HCat0 := Lib.hid hcat2
    have HLr := Lib.hid hlr
    have HLb := Lib.hid hlb
    have HRd := Lib.hid hrd
    have HSet := Lib.hid hset
    have HZ := Lib.hid hLL
    clear hgo hcat hcat2 hf hl hrr hrb hrd hset hlr hlb hll hLL
    go_enter Tryd.func11, Tryd.ntmps11
    go_wp2_with (first | (go_at_call 21; (with_reducible refine (HPk.out w).mono ?_); rintro e w1 ⟨va, rfl, hR, hb⟩; (have hpos : 0 < rr.length := by rw [HLr.out]; exact Nat.succ_pos _); obtain ⟨ga, ca, rfl, hga, hgla, hblka⟩ := Kd.R_form hR hpos; (rw [HLr.out] at hR ⊢); obtain ⟨-, -, hCa⟩ := Kd.R_reads' hR; (rw [HLr.out] at hCa); have HA1 := Lib.hid hCa; have HB1 := Lib.hid hb; clear hR hb hblka hCa) | (go_at_call 21; (with_reducible refine (HPk.out w1).mono ?_); rintro e w2 ⟨vb, rfl, hR, hb⟩; (have hpos : 0 < rr.length := by rw [HLr.out]; exact Nat.succ_pos _); obtain ⟨gb, cb, rfl, hgb, hglb, hblkb⟩ := Kd.R_form hR hpos; (rw [HLr.out] at hR ⊢); have HB2 := Lib.hid hb; obtain ⟨x0, x1⟩ := Kd.R_celln (enc := Value.int .u8) (h1 := fun _ => rfl) (0 : Int) hR (0 : Int) (Int.le_refl _) (by omega); (rw [HRd.out] at x0); (change w2.cell? ⟨gb, 0, none⟩ = _ at x0); (change w2.frozen? ⟨gb, 0, none⟩ = _ at x1); have HIn := Lib.hid (Ses.put_firstB hR HSet.out); clear hR hb hblkb))
    have HB3 : Hid (Below w1.heap.size w1 (w2.setCell ⟨gb, 0, none⟩ (.int .u8 (128 + (m : Int))))) := Lib.hid (HB2.out.setCell (p := ⟨gb, 0, none⟩) hgb (.int .u8 (128 + (m : Int))))
    clear x0 x1
    have hsz : (w2.setCell ⟨gb, 0, none⟩ (.int .u8 (128 + (m : Int)))).heap.size = w2.heap.size := World.size_setCell ..
    generalize w2.setCell ⟨gb, 0, none⟩ (.int .u8 (128 + (m : Int))) = w3 at *
    have hb4 := xb_new w3 (.cells #[.int .i64 5, .int .i64 8, .bool false, .bool true] 35)
    rw [hsz] at hb4
    have st0 := xb_cell hb4 0
    have st1 := xb_cell hb4 1
    have st2 := xb_cell hb4 2
    have st3 := xb_cell hb4 3
    have hw4 : w2.heap.size < (w3.alloc (.cells #[.int .i64 5, .int .i64 8, .bool false, .bool true] 35)).heap.size := xb_lt hb4
    have HB4 : Hid (Below w3.heap.size w3 (w3.alloc (.cells #[.int .i64 5, .int .i64 8, .bool false, .bool true] 35))) := Lib.hid (below_alloc (Below.refl _ _) _)
    simp only [List.getElem?_toArray, List.getElem?_cons_zero, List.getElem?_cons_succ] at st0 st1 st2 st3
    clear hb4
    generalize w3.alloc (.cells #[.int .i64 5, .int .i64 8, .bool false, .bool true] 35) = w4 at *
    have HBw : Hid (Below w.heap.size w w4) := Lib.hid (HB1.out.trans (((HB3.out.trans (HB4.out.mono HB3.out.size))).mono HB1.out.size))
    have HA := Lib.hid (Kd.C_below HA1.out (HB3.out.trans (HB4.out.mono HB3.out.size)))
    have HM := Lib.hid (Kd.C_below HR.out HBw.out)
    have hbr : Kd.C (Kd.int .u8) w3 (some ⟨gb, 0, none⟩) rb.length rb := C_of (by rw [HLb.out]; omega) (fun i hi => by rw [Nat.zero_add]; exact HIn.out i (by rw [HLb.out] at hi; exact hi))
    rw [HLb.out] at hbr
    have HBr := Lib.hid (Kd.C_below hbr HB4.out)
    clear hbr
    have HCat := Lib.hid (fun W g0 s0 s1 s2 h0 h1 h2 => HCat0.out (some ⟨ga, 0, none⟩) (some ⟨gb, 0, none⟩) ca cb W g0 s0 s1 s2 h0 h1 h2)
    have HB : Hid (Below w4.heap.size w4 w4.drew) := Lib.hid (below_drew (Below.refl _ _))
    refine wp_region_noPanic ?_
    refine wp_region_held_drew (S := fun w' => w'.cell? ⟨w2.heap.size, 0, none⟩ = some (.int .i64 5) ∧ w'.cell? ⟨w2.heap.size, 1, none⟩ = some (.int .i64 8) ∧ w'.cell? ⟨w2.heap.size, 2, none⟩ = some (.bool false) ∧ w'.cell? ⟨w2.heap.size, 3, none⟩ = some (.bool true)) (by kernel_rfl) ⟨st0, st1, st2, st3⟩ (fun hHeld => ?_)
    generalize w4.drew = u0 at *
    refine wpAnyH_take (i := 0) (v := ?_) rfl (by kernel_rfl) (by kernel_rfl) (by kernel_rfl) (fun _ _ _ h => h) (Or.inl ⟨by rfl, ?_⟩) (by assumption) ?_
    rotate_left
    · intro w hSw
      obtain ⟨hs0, hs1, hs2, hs3⟩ := hSw
      go_simp
      try (with_reducible rfl)
    try simp only [Act.put, List.getElem_toArray, List.getElem_cons_succ, List.getElem_cons_zero, List.setIfInBounds_toArray, List.set_cons_zero, List.set_cons_succ]
    refine wpAnyH_take (i := 1) (v := ?_) rfl (by kernel_rfl) (by kernel_rfl) (by kernel_rfl) (fun _ _ _ h => h) (Or.inl ⟨by rfl, ?_⟩) (by assumption) ?_
    rotate_left
    · intro w hSw
      obtain ⟨hs0, hs1, hs2, hs3⟩ := hSw
      go_simp
      try (with_reducible rfl)
    try simp only [Act.put, List.getElem_toArray, List.getElem_cons_succ, List.getElem_cons_zero, List.setIfInBounds_toArray, List.set_cons_zero, List.set_cons_succ]
    refine wpAnyH_take (i := 2) (v := ?_) rfl (by kernel_rfl) (by kernel_rfl) (by kernel_rfl) (fun _ _ _ h => h) (Or.inl ⟨by rfl, ?_⟩) (by assumption) ?_
    rotate_left
    · intro w hSw
      obtain ⟨hs0, hs1, hs2, hs3⟩ := hSw
      go_simp
      try (with_reducible rfl)
    try simp only [Act.put, List.getElem_toArray, List.getElem_cons_succ, List.getElem_cons_zero, List.setIfInBounds_toArray, List.set_cons_zero, List.set_cons_succ]
    refine wpAnyH_take (i := 5) (v := ?_) rfl (by kernel_rfl) (by kernel_rfl) (by kernel_rfl) (fun _ _ _ h => h) (Or.inl ⟨by rfl, ?_⟩) (by assumption) ?_
    rotate_left
    · intro w hSw
      obtain ⟨hs0, hs1, hs2, hs3⟩ := hSw
      go_simp
      try (with_reducible rfl)
    try simp only [Act.put, List.getElem_toArray, List.getElem_cons_succ, List.getElem_cons_zero, List.setIfInBounds_toArray, List.set_cons_zero, List.set_cons_succ]
    refine wpAnyH_take (i := 6) (v := ?_) rfl (by kernel_rfl) (by kernel_rfl) (by kernel_rfl) (fun _ _ _ h => h) (Or.inl ⟨by rfl, ?_⟩) (by assumption) ?_
    rotate_left
    · intro w hSw
      obtain ⟨hs0, hs1, hs2, hs3⟩ := hSw
      go_simp
      try (with_reducible rfl)
    try simp only [Act.put, List.getElem_toArray, List.getElem_cons_succ, List.getElem_cons_zero, List.setIfInBounds_toArray, List.set_cons_zero, List.set_cons_succ]
    refine wpAnyH_ready (rs := [3, 7]) (by kernel_rfl) (by simp) ?_
    refine AllReadyH.cons (o := _) rfl (fun K hK => ?_) ?_
    · go_simp
      refine hK.out _ _ ⟨cell_alloc _ hHeld.1, cell_alloc _ hHeld.2.1, cell_alloc _ hHeld.2.2.1, cell_alloc _ hHeld.2.2.2⟩ (fun hHeld => ?_)
      clear hK K
      try simp only [Act.put, List.getElem_toArray, List.getElem_cons_succ, List.getElem_cons_zero, List.setIfInBounds_toArray, List.set_cons_zero, List.set_cons_succ]
      have bA := xb_new (u0) (.cells #[.slice (some ⟨ga, 0, none⟩) (m + 1) ca, .slice (some ⟨gb, 0, none⟩) (m + 1) cb, .slice A0 more.length c0] 22)
      replace HB := Lib.hid (below_alloc HB.out (.cells #[.slice (some ⟨ga, 0, none⟩) (m + 1) ca, .slice (some ⟨gb, 0, none⟩) (m + 1) cb, .slice A0 more.length c0] 22))
      generalize (u0).alloc (.cells #[.slice (some ⟨ga, 0, none⟩) (m + 1) ca, .slice (some ⟨gb, 0, none⟩) (m + 1) cb, .slice A0 more.length c0] 22) = u1 at *
      refine wpAnyH_ready (rs := [4, 7]) (by kernel_rfl) (by simp) ?_
      refine AllReadyH.cons (o := _) rfl (fun K hK => ?_) ?_
      · go_simp
        go_at_call 35
        refine (HCat.out u1 u0.heap.size (xb_cell bA 0) (xb_cell bA 1) (xb_cell bA 2) (Kd.C_below HA.out HB.out) (Kd.C_below HBr.out HB.out) (Kd.C_below HM.out HB.out)).mono ?_
        rintro e u2 ⟨v5, rfl, hR5, hb5⟩
        obtain ⟨gV, cV, rfl, -, -, -⟩ := Kd.R_form hR5 (by rw [HLl.out]; omega)
        have hin5 := Ses.row_cellsB hR5
        rw [HLl.out] at hin5 ⊢
        go_wp2
        have HV := Lib.hid hin5
        replace HB := Lib.hid (HB.out.trans (hb5.mono HB.out.size))
        refine hK.out _ _ ⟨(HB.out.cell (p := ⟨w2.heap.size, 0, none⟩) hw4).trans st0, (HB.out.cell (p := ⟨w2.heap.size, 1, none⟩) hw4).trans st1, (HB.out.cell (p := ⟨w2.heap.size, 2, none⟩) hw4).trans st2, (HB.out.cell (p := ⟨w2.heap.size, 3, none⟩) hw4).trans st3⟩ (fun hHeld => ?_)
        clear hK K
        try simp only [Act.put, List.getElem_toArray, List.getElem_cons_succ, List.getElem_cons_zero, List.setIfInBounds_toArray, List.set_cons_zero, List.set_cons_succ]
        clear hR5 hb5 hin5 bA
        refine wpAnyH_ready (rs := [7]) (by kernel_rfl) (by simp) ?_
        refine AllReadyH.cons (o := _) rfl (fun K hK => ?_) ?_
        · go_simp
          refine hK.out _ _ ⟨cell_alloc _ hHeld.1, cell_alloc _ hHeld.2.1, cell_alloc _ hHeld.2.2.1, cell_alloc _ hHeld.2.2.2⟩ (fun hHeld => ?_)
          clear hK K
          try simp only [Act.put, List.getElem_toArray, List.getElem_cons_succ, List.getElem_cons_zero, List.setIfInBounds_toArray, List.set_cons_zero, List.set_cons_succ]
          have bC := xb_new (u2) (.cells #[.int .i64 5, .int .i64 8, .bool false, .bool true, .int .i64 5, .int .i64 8, .bool false, .bool true] 35)
          have HV2 := Lib.hid (fun (i : Nat) (hi : i < LL) => cell_alloc (.cells #[.int .i64 5, .int .i64 8, .bool false, .bool true, .int .i64 5, .int .i64 8, .bool false, .bool true] 35) (HV.out i hi))
          replace HB := Lib.hid (below_alloc HB.out (.cells #[.int .i64 5, .int .i64 8, .bool false, .bool true, .int .i64 5, .int .i64 8, .bool false, .bool true] 35))
          generalize (u2).alloc (.cells #[.int .i64 5, .int .i64 8, .bool false, .bool true, .int .i64 5, .int .i64 8, .bool false, .bool true] 35) = u3 at *
          refine wpAnyH_ready (rs := [8]) (by kernel_rfl) (by simp) ?_
          refine AllReadyH.cons (o := _) rfl (fun K hK => ?_) ?_
          · go_simp
            go_at_call 18
            refine (HGet.out u3 ⟨gV, 0, none⟩ cV (u2.heap.size) (fun i hi => Ses.add_cellB (HV2.out i hi)) (xb_cell bC 0) (xb_cell bC 1) (xb_cell bC 2) (xb_cell bC 3) (xb_cell bC 4) (xb_cell bC 5) (xb_cell bC 6) (xb_cell bC 7)).mono ?_
            rintro e u4 ⟨v6, v7, rfl, hG6, hR7, hb6⟩
            obtain ⟨g6, c6, rfl, hc6⟩ := Ses.raw_cells hG6 (Nat.succ_pos _)
            obtain ⟨A7, c7, rfl, hle7, hC7⟩ := Kd.R_reads hR7
            have y0 : u4.cell? ⟨g6, 0, none⟩ = some (.bool true) := hc6 0 _ 0 _ rfl rfl
            have y3 : u4.cell? ⟨g6, 3, none⟩ = some (.int .i64 N) := hc6 0 _ 3 _ rfl rfl
            have y5 : u4.cell? ⟨g6, 5, none⟩ = some (.bool true) := hc6 1 _ 0 _ rfl rfl
            have y8 : u4.cell? ⟨g6, 8, none⟩ = some (.int .i64 (-N)) := hc6 1 _ 3 _ rfl rfl
            go_wp2
            replace HB := Lib.hid (HB.out.trans (hb6.mono HB.out.size))
            have HC7 : Hid (Kd.C (Kd.int .u8) u4 A7 more.length more) := Lib.hid hC7
            have hle7b : more.length ≤ c7 := hle7
            refine hK.out _ _ ⟨(HB.out.cell (p := ⟨w2.heap.size, 0, none⟩) hw4).trans st0, (HB.out.cell (p := ⟨w2.heap.size, 1, none⟩) hw4).trans st1, (HB.out.cell (p := ⟨w2.heap.size, 2, none⟩) hw4).trans st2, (HB.out.cell (p := ⟨w2.heap.size, 3, none⟩) hw4).trans st3⟩ (fun hHeld => ?_)
            clear hK K
            try simp only [Act.put, List.getElem_toArray, List.getElem_cons_succ, List.getElem_cons_zero, List.setIfInBounds_toArray, List.set_cons_zero, List.set_cons_succ]
            clear hG6 hR7 hb6 hC7 hc6 bC HV
            refine wpAnyH_take (i := 9) (v := ?_) rfl (by kernel_rfl) (by kernel_rfl) (by kernel_rfl) (fun _ _ _ h => h) (Or.inl ⟨by rfl, ?_⟩) (by assumption) ?_
            rotate_left
            · intro w hSw
              obtain ⟨hs0, hs1, hs2, hs3⟩ := hSw
              go_simp
              try (with_reducible rfl)
            try simp only [Act.put, List.getElem_toArray, List.getElem_cons_succ, List.getElem_cons_zero, List.setIfInBounds_toArray, List.set_cons_zero, List.set_cons_succ]
            refine wpAnyH_take (i := 10) (v := ?_) rfl (by kernel_rfl) (by kernel_rfl) (by kernel_rfl) (fun _ _ _ h => h) (Or.inl ⟨by rfl, ?_⟩) (by assumption) ?_
            rotate_left
            · intro w hSw
              obtain ⟨hs0, hs1, hs2, hs3⟩ := hSw
              go_simp
              try (with_reducible rfl)
            try simp only [Act.put, List.getElem_toArray, List.getElem_cons_succ, List.getElem_cons_zero, List.setIfInBounds_toArray, List.set_cons_zero, List.set_cons_succ]
            refine wpAnyH_take (i := 11) (v := ?_) rfl (by kernel_rfl) (by kernel_rfl) (by kernel_rfl) (fun _ _ _ h => h) (Or.inl ⟨by rfl, ?_⟩) (by assumption) ?_
            rotate_left
            · intro w hSw
              obtain ⟨hs0, hs1, hs2, hs3⟩ := hSw
              go_simp
              try (with_reducible rfl)
            try simp only [Act.put, List.getElem_toArray, List.getElem_cons_succ, List.getElem_cons_zero, List.setIfInBounds_toArray, List.set_cons_zero, List.set_cons_succ]
            refine wpAnyH_take (i := 12) (v := ?_) rfl (by kernel_rfl) (by kernel_rfl) (by kernel_rfl) (fun _ _ _ h => h) (Or.inl ⟨by rfl, ?_⟩) (by assumption) ?_
            rotate_left
            · intro w hSw
              obtain ⟨hs0, hs1, hs2, hs3⟩ := hSw
              go_simp
              try (with_reducible rfl)
            try simp only [Act.put, List.getElem_toArray, List.getElem_cons_succ, List.getElem_cons_zero, List.setIfInBounds_toArray, List.set_cons_zero, List.set_cons_succ]
            refine wpAnyH_take (i := 13) (v := ?_) rfl (by kernel_rfl) (by kernel_rfl) (by kernel_rfl) (fun _ _ _ h => h) (Or.inl ⟨by rfl, ?_⟩) (by assumption) ?_
            rotate_left
            · intro w hSw
              obtain ⟨hs0, hs1, hs2, hs3⟩ := hSw
              go_simp
              try (with_reducible rfl)
            try simp only [Act.put, List.getElem_toArray, List.getElem_cons_succ, List.getElem_cons_zero, List.setIfInBounds_toArray, List.set_cons_zero, List.set_cons_succ]
            refine wpAnyH_done (by kernel_rfl) ?_ _
            refine NoPanic.normal ?_
            go_wp2
            have HEq := Lib.hid (bytes_Equal.calls A7 c7 more A0 c0 more true u4.drew (Kd.C_below HC7.out (below_drew (Below.refl _ _))) hle7b (Kd.C_below (Kd.C_below HM.out HB.out) (below_drew (Below.refl _ _))) hc0 hef)
            go_region_held3 (fun w' => w'.cell? ⟨g6, 0, none⟩ = some (.bool true) ∧ w'.cell? ⟨g6, 3, none⟩ = some (.int .i64 N) ∧ w'.cell? ⟨g6, 5, none⟩ = some (.bool true) ∧ w'.cell? ⟨g6, 8, none⟩ = some (.int .i64 (-N))) (first | exact ⟨y0, y3, y5, y8⟩ | exact ⟨z0, z3, z5, z8⟩) (first | (go_at_call 19; (with_reducible refine HEq.out.mono ?_); rintro e w8 ⟨rfl, n8, rfl⟩) | (go_at_call 14; (with_reducible refine (sessionLive_calls _).mono ?_); rintro e w9 ⟨rfl, hb9⟩; have z0 := bl_cell hb9 y0; have z3 := bl_cell hb9 y3; have z5 := bl_cell hb9 y5; have z8 := bl_cell hb9 y8))
            go_wp2
            go_ret
            exact ⟨rfl, HBw.out.trans ((HB.out.trans ((bl_trans (bl_drewN u4 (1 + n8)) hb9).mono HB.out.size)).mono HBw.out.size)⟩
          exact AllReadyH.nil
        exact AllReadyH.nil
      refine AllReadyH.cons (o := _) rfl (fun K hK => ?_) ?_
      · go_simp
        refine hK.out _ _ ⟨cell_alloc _ hHeld.1, cell_alloc _ hHeld.2.1, cell_alloc _ hHeld.2.2.1, cell_alloc _ hHeld.2.2.2⟩ (fun hHeld => ?_)
        clear hK K
        try simp only [Act.put, List.getElem_toArray, List.getElem_cons_succ, List.getElem_cons_zero, List.setIfInBounds_toArray, List.set_cons_zero, List.set_cons_succ]
        have bC := xb_new (u1) (.cells #[.int .i64 5, .int .i64 8, .bool false, .bool true, .int .i64 5, .int .i64 8, .bool false, .bool true] 35)
        replace bA := xb_alloc (o' := .cells #[.int .i64 5, .int .i64 8, .bool false, .bool true, .int .i64 5, .int .i64 8, .bool false, .bool true] 35) bA
        replace HB := Lib.hid (below_alloc HB.out (.cells #[.int .i64 5, .int .i64 8, .bool false, .bool true, .int .i64 5, .int .i64 8, .bool false, .bool true] 35))
        generalize (u1).alloc (.cells #[.int .i64 5, .int .i64 8, .bool false, .bool true, .int .i64 5, .int .i64 8, .bool false, .bool true] 35) = u2 at *
        refine wpAnyH_ready (rs := [4]) (by kernel_rfl) (by simp) ?_
        refine AllReadyH.cons (o := _) rfl (fun K hK => ?_) ?_
        · go_simp
          go_at_call 35
          refine (HCat.out u2 u0.heap.size (xb_cell bA 0) (xb_cell bA 1) (xb_cell bA 2) (Kd.C_below HA.out HB.out) (Kd.C_below HBr.out HB.out) (Kd.C_below HM.out HB.out)).mono ?_
          rintro e u3 ⟨v5, rfl, hR5, hb5⟩
          obtain ⟨gV, cV, rfl, -, -, -⟩ := Kd.R_form hR5 (by rw [HLl.out]; omega)
          have hin5 := Ses.row_cellsB hR5
          rw [HLl.out] at hin5 ⊢
          go_wp2
          have HV := Lib.hid hin5
          replace bC := blk_bl bC hb5 (xb_lt bC)
          replace HB := Lib.hid (HB.out.trans (hb5.mono HB.out.size))
          refine hK.out _ _ ⟨(HB.out.cell (p := ⟨w2.heap.size, 0, none⟩) hw4).trans st0, (HB.out.cell (p := ⟨w2.heap.size, 1, none⟩) hw4).trans st1, (HB.out.cell (p := ⟨w2.heap.size, 2, none⟩) hw4).trans st2, (HB.out.cell (p := ⟨w2.heap.size, 3, none⟩) hw4).trans st3⟩ (fun hHeld => ?_)
          clear hK K
          try simp only [Act.put, List.getElem_toArray, List.getElem_cons_succ, List.getElem_cons_zero, List.setIfInBounds_toArray, List.set_cons_zero, List.set_cons_succ]
          clear hR5 hb5 hin5 bA
          refine wpAnyH_ready (rs := [8]) (by kernel_rfl) (by simp) ?_
          refine AllReadyH.cons (o := _) rfl (fun K hK => ?_) ?_
          · go_simp
            go_at_call 18
            refine (HGet.out u3 ⟨gV, 0, none⟩ cV (u1.heap.size) (fun i hi => Ses.add_cellB (HV.out i hi)) (xb_cell bC 0) (xb_cell bC 1) (xb_cell bC 2) (xb_cell bC 3) (xb_cell bC 4) (xb_cell bC 5) (xb_cell bC 6) (xb_cell bC 7)).mono ?_
            rintro e u4 ⟨v6, v7, rfl, hG6, hR7, hb6⟩
            obtain ⟨g6, c6, rfl, hc6⟩ := Ses.raw_cells hG6 (Nat.succ_pos _)
            obtain ⟨A7, c7, rfl, hle7, hC7⟩ := Kd.R_reads hR7
            have y0 : u4.cell? ⟨g6, 0, none⟩ = some (.bool true) := hc6 0 _ 0 _ rfl rfl
            have y3 : u4.cell? ⟨g6, 3, none⟩ = some (.int .i64 N) := hc6 0 _ 3 _ rfl rfl
            have y5 : u4.cell? ⟨g6, 5, none⟩ = some (.bool true) := hc6 1 _ 0 _ rfl rfl
            have y8 : u4.cell? ⟨g6, 8, none⟩ = some (.int .i64 (-N)) := hc6 1 _ 3 _ rfl rfl
            go_wp2
            replace HB := Lib.hid (HB.out.trans (hb6.mono HB.out.size))
            have HC7 : Hid (Kd.C (Kd.int .u8) u4 A7 more.length more) := Lib.hid hC7
            have hle7b : more.length ≤ c7 := hle7
            refine hK.out _ _ ⟨(HB.out.cell (p := ⟨w2.heap.size, 0, none⟩) hw4).trans st0, (HB.out.cell (p := ⟨w2.heap.size, 1, none⟩) hw4).trans st1, (HB.out.cell (p := ⟨w2.heap.size, 2, none⟩) hw4).trans st2, (HB.out.cell (p := ⟨w2.heap.size, 3, none⟩) hw4).trans st3⟩ (fun hHeld => ?_)
            clear hK K
            try simp only [Act.put, List.getElem_toArray, List.getElem_cons_succ, List.getElem_cons_zero, List.setIfInBounds_toArray, List.set_cons_zero, List.set_cons_succ]
            clear hG6 hR7 hb6 hC7 hc6 bC HV
            refine wpAnyH_take (i := 9) (v := ?_) rfl (by kernel_rfl) (by kernel_rfl) (by kernel_rfl) (fun _ _ _ h => h) (Or.inl ⟨by rfl, ?_⟩) (by assumption) ?_
            rotate_left
            · intro w hSw
              obtain ⟨hs0, hs1, hs2, hs3⟩ := hSw
              go_simp
              try (with_reducible rfl)
            try simp only [Act.put, List.getElem_toArray, List.getElem_cons_succ, List.getElem_cons_zero, List.setIfInBounds_toArray, List.set_cons_zero, List.set_cons_succ]
            refine wpAnyH_take (i := 10) (v := ?_) rfl (by kernel_rfl) (by kernel_rfl) (by kernel_rfl) (fun _ _ _ h => h) (Or.inl ⟨by rfl, ?_⟩) (by assumption) ?_
            rotate_left
            · intro w hSw
              obtain ⟨hs0, hs1, hs2, hs3⟩ := hSw
              go_simp
              try (with_reducible rfl)
            try simp only [Act.put, List.getElem_toArray, List.getElem_cons_succ, List.getElem_cons_zero, List.setIfInBounds_toArray, List.set_cons_zero, List.set_cons_succ]
            refine wpAnyH_take (i := 11) (v := ?_) rfl (by kernel_rfl) (by kernel_rfl) (by kernel_rfl) (fun _ _ _ h => h) (Or.inl ⟨by rfl, ?_⟩) (by assumption) ?_
            rotate_left
            · intro w hSw
              obtain ⟨hs0, hs1, hs2, hs3⟩ := hSw
              go_simp
              try (with_reducible rfl)
            try simp only [Act.put, List.getElem_toArray, List.getElem_cons_succ, List.getElem_cons_zero, List.setIfInBounds_toArray, List.set_cons_zero, List.set_cons_succ]
            refine wpAnyH_take (i := 12) (v := ?_) rfl (by kernel_rfl) (by kernel_rfl) (by kernel_rfl) (fun _ _ _ h => h) (Or.inl ⟨by rfl, ?_⟩) (by assumption) ?_
            rotate_left
            · intro w hSw
              obtain ⟨hs0, hs1, hs2, hs3⟩ := hSw
              go_simp
              try (with_reducible rfl)
            try simp only [Act.put, List.getElem_toArray, List.getElem_cons_succ, List.getElem_cons_zero, List.setIfInBounds_toArray, List.set_cons_zero, List.set_cons_succ]
            refine wpAnyH_take (i := 13) (v := ?_) rfl (by kernel_rfl) (by kernel_rfl) (by kernel_rfl) (fun _ _ _ h => h) (Or.inl ⟨by rfl, ?_⟩) (by assumption) ?_
            rotate_left
            · intro w hSw
              obtain ⟨hs0, hs1, hs2, hs3⟩ := hSw
              go_simp
              try (with_reducible rfl)
            try simp only [Act.put, List.getElem_toArray, List.getElem_cons_succ, List.getElem_cons_zero, List.setIfInBounds_toArray, List.set_cons_zero, List.set_cons_succ]
            refine wpAnyH_done (by kernel_rfl) ?_ _
            refine NoPanic.normal ?_
            go_wp2
            have HEq := Lib.hid (bytes_Equal.calls A7 c7 more A0 c0 more true u4.drew (Kd.C_below HC7.out (below_drew (Below.refl _ _))) hle7b (Kd.C_below (Kd.C_below HM.out HB.out) (below_drew (Below.refl _ _))) hc0 hef)
            go_region_held3 (fun w' => w'.cell? ⟨g6, 0, none⟩ = some (.bool true) ∧ w'.cell? ⟨g6, 3, none⟩ = some (.int .i64 N) ∧ w'.cell? ⟨g6, 5, none⟩ = some (.bool true) ∧ w'.cell? ⟨g6, 8, none⟩ = some (.int .i64 (-N))) (first | exact ⟨y0, y3, y5, y8⟩ | exact ⟨z0, z3, z5, z8⟩) (first | (go_at_call 19; (with_reducible refine HEq.out.mono ?_); rintro e w8 ⟨rfl, n8, rfl⟩) | (go_at_call 14; (with_reducible refine (sessionLive_calls _).mono ?_); rintro e w9 ⟨rfl, hb9⟩; have z0 := bl_cell hb9 y0; have z3 := bl_cell hb9 y3; have z5 := bl_cell hb9 y5; have z8 := bl_cell hb9 y8))
            go_wp2
            go_ret
            exact ⟨rfl, HBw.out.trans ((HB.out.trans ((bl_trans (bl_drewN u4 (1 + n8)) hb9).mono HB.out.size)).mono HBw.out.size)⟩
          exact AllReadyH.nil
        exact AllReadyH.nil
      exact AllReadyH.nil
    refine AllReadyH.cons (o := _) rfl (fun K hK => ?_) ?_
    · go_simp
      refine hK.out _ _ ⟨cell_alloc _ hHeld.1, cell_alloc _ hHeld.2.1, cell_alloc _ hHeld.2.2.1, cell_alloc _ hHeld.2.2.2⟩ (fun hHeld => ?_)
      clear hK K
      try simp only [Act.put, List.getElem_toArray, List.getElem_cons_succ, List.getElem_cons_zero, List.setIfInBounds_toArray, List.set_cons_zero, List.set_cons_succ]
      have bC := xb_new (u0) (.cells #[.int .i64 5, .int .i64 8, .bool false, .bool true, .int .i64 5, .int .i64 8, .bool false, .bool true] 35)
      replace HB := Lib.hid (below_alloc HB.out (.cells #[.int .i64 5, .int .i64 8, .bool false, .bool true, .int .i64 5, .int .i64 8, .bool false, .bool true] 35))
      generalize (u0).alloc (.cells #[.int .i64 5, .int .i64 8, .bool false, .bool true, .int .i64 5, .int .i64 8, .bool false, .bool true] 35) = u1 at *
      refine wpAnyH_ready (rs := [3]) (by kernel_rfl) (by simp) ?_
      refine AllReadyH.cons (o := _) rfl (fun K hK => ?_) ?_
      · go_simp
        refine hK.out _ _ ⟨cell_alloc _ hHeld.1, cell_alloc _ hHeld.2.1, cell_alloc _ hHeld.2.2.1, cell_alloc _ hHeld.2.2.2⟩ (fun hHeld => ?_)
        clear hK K
        try simp only [Act.put, List.getElem_toArray, List.getElem_cons_succ, List.getElem_cons_zero, List.setIfInBounds_toArray, List.set_cons_zero, List.set_cons_succ]
        have bA := xb_new (u1) (.cells #[.slice (some ⟨ga, 0, none⟩) (m + 1) ca, .slice (some ⟨gb, 0, none⟩) (m + 1) cb, .slice A0 more.length c0] 22)
        replace bC := xb_alloc (o' := .cells #[.slice (some ⟨ga, 0, none⟩) (m + 1) ca, .slice (some ⟨gb, 0, none⟩) (m + 1) cb, .slice A0 more.length c0] 22) bC
        replace HB := Lib.hid (below_alloc HB.out (.cells #[.slice (some ⟨ga, 0, none⟩) (m + 1) ca, .slice (some ⟨gb, 0, none⟩) (m + 1) cb, .slice A0 more.length c0] 22))
        generalize (u1).alloc (.cells #[.slice (some ⟨ga, 0, none⟩) (m + 1) ca, .slice (some ⟨gb, 0, none⟩) (m + 1) cb, .slice A0 more.length c0] 22) = u2 at *
        refine wpAnyH_ready (rs := [4]) (by kernel_rfl) (by simp) ?_
        refine AllReadyH.cons (o := _) rfl (fun K hK => ?_) ?_
        · go_simp
          go_at_call 35
          refine (HCat.out u2 u1.heap.size (xb_cell bA 0) (xb_cell bA 1) (xb_cell bA 2) (Kd.C_below HA.out HB.out) (Kd.C_below HBr.out HB.out) (Kd.C_below HM.out HB.out)).mono ?_
          rintro e u3 ⟨v5, rfl, hR5, hb5⟩
          obtain ⟨gV, cV, rfl, -, -, -⟩ := Kd.R_form hR5 (by rw [HLl.out]; omega)
          have hin5 := Ses.row_cellsB hR5
          rw [HLl.out] at hin5 ⊢
          go_wp2
          have HV := Lib.hid hin5
          replace bC := blk_bl bC hb5 (xb_lt bC)
          replace HB := Lib.hid (HB.out.trans (hb5.mono HB.out.size))
          refine hK.out _ _ ⟨(HB.out.cell (p := ⟨w2.heap.size, 0, none⟩) hw4).trans st0, (HB.out.cell (p := ⟨w2.heap.size, 1, none⟩) hw4).trans st1, (HB.out.cell (p := ⟨w2.heap.size, 2, none⟩) hw4).trans st2, (HB.out.cell (p := ⟨w2.heap.size, 3, none⟩) hw4).trans st3⟩ (fun hHeld => ?_)
          clear hK K
          try simp only [Act.put, List.getElem_toArray, List.getElem_cons_succ, List.getElem_cons_zero, List.setIfInBounds_toArray, List.set_cons_zero, List.set_cons_succ]
          clear hR5 hb5 hin5 bA
          refine wpAnyH_ready (rs := [8]) (by kernel_rfl) (by simp) ?_
          refine AllReadyH.cons (o := _) rfl (fun K hK => ?_) ?_
          · go_simp
            go_at_call 18
            refine (HGet.out u3 ⟨gV, 0, none⟩ cV (u0.heap.size) (fun i hi => Ses.add_cellB (HV.out i hi)) (xb_cell bC 0) (xb_cell bC 1) (xb_cell bC 2) (xb_cell bC 3) (xb_cell bC 4) (xb_cell bC 5) (xb_cell bC 6) (xb_cell bC 7)).mono ?_
            rintro e u4 ⟨v6, v7, rfl, hG6, hR7, hb6⟩
            obtain ⟨g6, c6, rfl, hc6⟩ := Ses.raw_cells hG6 (Nat.succ_pos _)
            obtain ⟨A7, c7, rfl, hle7, hC7⟩ := Kd.R_reads hR7
            have y0 : u4.cell? ⟨g6, 0, none⟩ = some (.bool true) := hc6 0 _ 0 _ rfl rfl
            have y3 : u4.cell? ⟨g6, 3, none⟩ = some (.int .i64 N) := hc6 0 _ 3 _ rfl rfl
            have y5 : u4.cell? ⟨g6, 5, none⟩ = some (.bool true) := hc6 1 _ 0 _ rfl rfl
            have y8 : u4.cell? ⟨g6, 8, none⟩ = some (.int .i64 (-N)) := hc6 1 _ 3 _ rfl rfl
            go_wp2
            replace HB := Lib.hid (HB.out.trans (hb6.mono HB.out.size))
            have HC7 : Hid (Kd.C (Kd.int .u8) u4 A7 more.length more) := Lib.hid hC7
            have hle7b : more.length ≤ c7 := hle7
            refine hK.out _ _ ⟨(HB.out.cell (p := ⟨w2.heap.size, 0, none⟩) hw4).trans st0, (HB.out.cell (p := ⟨w2.heap.size, 1, none⟩) hw4).trans st1, (HB.out.cell (p := ⟨w2.heap.size, 2, none⟩) hw4).trans st2, (HB.out.cell (p := ⟨w2.heap.size, 3, none⟩) hw4).trans st3⟩ (fun hHeld => ?_)
            clear hK K
            try simp only [Act.put, List.getElem_toArray, List.getElem_cons_succ, List.getElem_cons_zero, List.setIfInBounds_toArray, List.set_cons_zero, List.set_cons_succ]
            clear hG6 hR7 hb6 hC7 hc6 bC HV
            refine wpAnyH_take (i := 9) (v := ?_) rfl (by kernel_rfl) (by kernel_rfl) (by kernel_rfl) (fun _ _ _ h => h) (Or.inl ⟨by rfl, ?_⟩) (by assumption) ?_
            rotate_left
            · intro w hSw
              obtain ⟨hs0, hs1, hs2, hs3⟩ := hSw
              go_simp
              try (with_reducible rfl)
            try simp only [Act.put, List.getElem_toArray, List.getElem_cons_succ, List.getElem_cons_zero, List.setIfInBounds_toArray, List.set_cons_zero, List.set_cons_succ]
            refine wpAnyH_take (i := 10) (v := ?_) rfl (by kernel_rfl) (by kernel_rfl) (by kernel_rfl) (fun _ _ _ h => h) (Or.inl ⟨by rfl, ?_⟩) (by assumption) ?_
            rotate_left
            · intro w hSw
              obtain ⟨hs0, hs1, hs2, hs3⟩ := hSw
              go_simp
              try (with_reducible rfl)
            try simp only [Act.put, List.getElem_toArray, List.getElem_cons_succ, List.getElem_cons_zero, List.setIfInBounds_toArray, List.set_cons_zero, List.set_cons_succ]
            refine wpAnyH_take (i := 11) (v := ?_) rfl (by kernel_rfl) (by kernel_rfl) (by kernel_rfl) (fun _ _ _ h => h) (Or.inl ⟨by rfl, ?_⟩) (by assumption) ?_
            rotate_left
            · intro w hSw
              obtain ⟨hs0, hs1, hs2, hs3⟩ := hSw
              go_simp
              try (with_reducible rfl)
            try simp only [Act.put, List.getElem_toArray, List.getElem_cons_succ, List.getElem_cons_zero, List.setIfInBounds_toArray, List.set_cons_zero, List.set_cons_succ]
            refine wpAnyH_take (i := 12) (v := ?_) rfl (by kernel_rfl) (by kernel_rfl) (by kernel_rfl) (fun _ _ _ h => h) (Or.inl ⟨by rfl, ?_⟩) (by assumption) ?_
            rotate_left
            · intro w hSw
              obtain ⟨hs0, hs1, hs2, hs3⟩ := hSw
              go_simp
              try (with_reducible rfl)
            try simp only [Act.put, List.getElem_toArray, List.getElem_cons_succ, List.getElem_cons_zero, List.setIfInBounds_toArray, List.set_cons_zero, List.set_cons_succ]
            refine wpAnyH_take (i := 13) (v := ?_) rfl (by kernel_rfl) (by kernel_rfl) (by kernel_rfl) (fun _ _ _ h => h) (Or.inl ⟨by rfl, ?_⟩) (by assumption) ?_
            rotate_left
            · intro w hSw
              obtain ⟨hs0, hs1, hs2, hs3⟩ := hSw
              go_simp
              try (with_reducible rfl)
            try simp only [Act.put, List.getElem_toArray, List.getElem_cons_succ, List.getElem_cons_zero, List.setIfInBounds_toArray, List.set_cons_zero, List.set_cons_succ]
            refine wpAnyH_done (by kernel_rfl) ?_ _
            refine NoPanic.normal ?_
            go_wp2
            have HEq := Lib.hid (bytes_Equal.calls A7 c7 more A0 c0 more true u4.drew (Kd.C_below HC7.out (below_drew (Below.refl _ _))) hle7b (Kd.C_below (Kd.C_below HM.out HB.out) (below_drew (Below.refl _ _))) hc0 hef)
            go_region_held3 (fun w' => w'.cell? ⟨g6, 0, none⟩ = some (.bool true) ∧ w'.cell? ⟨g6, 3, none⟩ = some (.int .i64 N) ∧ w'.cell? ⟨g6, 5, none⟩ = some (.bool true) ∧ w'.cell? ⟨g6, 8, none⟩ = some (.int .i64 (-N))) (first | exact ⟨y0, y3, y5, y8⟩ | exact ⟨z0, z3, z5, z8⟩) (first | (go_at_call 19; (with_reducible refine HEq.out.mono ?_); rintro e w8 ⟨rfl, n8, rfl⟩) | (go_at_call 14; (with_reducible refine (sessionLive_calls _).mono ?_); rintro e w9 ⟨rfl, hb9⟩; have z0 := bl_cell hb9 y0; have z3 := bl_cell hb9 y3; have z5 := bl_cell hb9 y5; have z8 := bl_cell hb9 y8))
            go_wp2
            go_ret
            exact ⟨rfl, HBw.out.trans ((HB.out.trans ((bl_trans (bl_drewN u4 (1 + n8)) hb9).mono HB.out.size)).mono HBw.out.size)⟩
          exact AllReadyH.nil
        exact AllReadyH.nil
      exact AllReadyH.nil
    exact AllReadyH.nil
  · cases h
end Go.Proofs.YtdnahdddkagfhaaDoor.X
