/- The law FnSessionTurned: a number read with the most significant byte ahead is the one that the bytes turned around give with the least significant one ahead. -/
import Derived.Test.YtdnahdddkagfhaaDoorTq
namespace Go.Proofs.YtdnahdddkagfhaaDoor.X
open Go.RowKit Go.Proofs.YtdnahdddkagfhaaDoorW.PrintWords Go.Proofs.YtdnahdddkagfhaaDoorW.PrintLast Go.Proofs.YtdnahdddkagfhaaDoorW.PrintMore
attribute [local go_sem] setCell_drewN alloc_drewN
set_option linter.unusedVariables false
set_option linter.unusedSimpArgs false
theorem Ses.add_cell2 {w : World} {g i : Nat} {v : Value} (h : w.cell? ⟨g, i, none⟩ = some v) : w.cell? ((⟨g, 0, none⟩ : Addr).add i) = some v := by
  unfold Addr.add
  split
  · rename_i hz
    have hz' : i = 0 := by simpa using hz
    subst hz'
    exact h
  · simpa using h
theorem Ses.row_cells {w : World} {base g n cap : Nat} {ok : Nat → Prop} {rr : List Int} (hR : Kd.R (Kd.int .u8) 5 w base ok (.slice (some ⟨g, 0, none⟩) n cap) rr) :
    ∀ i : Nat, i < n → w.cell? ⟨g, i, none⟩ = some (.int .u8 (rr.getD i 0)) := by
  intro i hi
  have hc := (Kd.R_celln (enc := Value.int .u8) (h1 := fun _ => rfl) (0 : Int) hR (i : Int) (by omega) (by omega)).1
  have e : rdOf (0 : Int) rr (i : Int) = rr.getD i 0 := by unfold rdOf; rw [Int.toNat_natCast]
  rw [e, Int.toNat_natCast] at hc
  exact hc
theorem Ses.maskN (j : Nat) (x : Int) (h0 : 0 ≤ x) (h1 : x < 18446744073709551616) (hj : j ≤ 64) : Go.bits .and .u64 x (2 ^ j - 1) = x % 2 ^ j :=
  Go.bits_mask .u64 64 (by decide) (fun n a b => by simp [IntKind.wrap, IntKind.bits, IntKind.signed]; omega) j hj x h0 h1
def laws_FnSessionTurned.f (n size : Int) : Option Bool := if 0 ≤ n ∧ n < 18446744073709551616 ∧ 0 ≤ size ∧ size ≤ 255 then some true else none
set_option maxHeartbeats 16000000 in
set_option maxRecDepth 100000 in
theorem laws_FnSessionTurned.calls (n size : Int) (r : Bool) (w : World) (h : laws_FnSessionTurned.f n size = some r) :
    Calls Tryd.prog 7 #[.int .u64 n, .int .u8 size] w fun e w' => e = .returned (.bool r) ∧ Below w.heap.size w w' := by
  unfold laws_FnSessionTurned.f at h
  split at h
  · rename_i hsz
    obtain ⟨z0, z1, z2, z3⟩ := hsz
    obtain rfl := Option.some.inj h
    clear h
    have em : size.tmod 4 = size % 4 := Int.tmod_eq_emod_of_nonneg z2
    rcases (by omega : size.tmod 4 = 0 ∨ size.tmod 4 = 1 ∨ size.tmod 4 = 2 ∨ size.tmod 4 = 3) with er | er | er | er
    · clear em
      have hlen := Ses.plainL_len 1 n
      obtain ⟨K, hf⟩ := Ses.plain_f 1 (by omega) n
      rw [show ((1 : Nat) : Int) = 1 from rfl] at hf
      have hgb := fun (W : World) (b g c : Nat) h => got_be n z0 1 (by omega) (by omega) W b g c h
      have hgl := fun (W : World) (b g c : Nat) h => got_le n z0 1 (by omega) (by omega) W b g c h
      have hmask : Go.bits .and .u64 n 255 = n % 256 ^ 1 := Ses.maskN 8 n z0 z1 (by omega)
      generalize n % 256 ^ 1 = N at *
      obtain ⟨ds, hds⟩ : ∃ ds, ds = Ses.plainL 1 n := ⟨_, rfl⟩
      obtain ⟨rr, hrr⟩ : ∃ rr, rr = ds.reverse := ⟨_, rfl⟩
      rw [← hds] at hf hgb hgl hlen
      rw [← hrr] at hf hgb
      have hlr : rr.length = 1 := by rw [hrr, List.length_reverse, hlen]
      have hrev : ZM.slices_Reverse_byte_byte.f (0 + 6) rr = some ds := by rw [Ses.rev_small 0 rr (by omega), hrr, List.reverse_reverse]
      have hgB := fun (W : World) (a : Addr) (cI g0 : Nat) hin s0 s1 s2 s3 => get_one (fun _ d => Value.slice none 0 0 = d) (fun _ _ _ h _ => h) 4 ((1 : Nat) : Int) true false false rr 1 (wrap64 N) (by omega) (by omega) (by omega) (fun W2 b g c hrs => hgb W2 b g c hrs) W a cI g0 hin s0 s1 s2 s3
      have hgL := fun (W : World) (a : Addr) (cI g0 : Nat) hin s0 s1 s2 s3 => get_one (fun _ d => Value.slice none 0 0 = d) (fun _ _ _ h _ => h) 4 ((1 : Nat) : Int) false false false ds 1 (wrap64 N) (by omega) (by omega) (by omega) (fun W2 b g c hrs => hgl W2 b g c hrs) W a cI g0 hin s0 s1 s2 s3
      rw [hlr] at hgB
      rw [hlen] at hgL
      have HGB := Lib.hid hgB
      have HGL := Lib.hid hgL
      have HPl := Lib.hid (fun W => ZM.spec_SessionPlain.calls K n 1 true rr W hf)
      have HLr := Lib.hid hlr
      have HLd := Lib.hid hlen
      have HRv := Lib.hid hrev
      clear hgB hgL hgb hgl hf hds hrr hlr hlen hrev
      go_enter Tryd.func7, Tryd.ntmps7
      go_wp2_with (first | (go_at_call 22; (with_reducible refine (HPl.out _).mono ?_); rintro e w1 ⟨v0, rfl, hR, hb1⟩; obtain ⟨g, cap, rfl, hbg, hgl, hblk⟩ := Kd.R_form hR (by rw [HLr.out]; omega); (rw [HLr.out] at hR ⊢); have hin1 := Ses.row_cells hR; have HIn1 := Lib.hid hin1; have HB1 := Lib.hid hb1; have HClA := Lib.hid (Tryd.bytes_Clone_at ⟨g, 0, none⟩ 1 cap rr w1 HLr.out (by omega) (fun i hi => Ses.add_cell2 (hin1 i hi))); clear hR hb1 hblk hin1) | (go_at_call 17; (with_reducible refine HClA.out.mono ?_); rintro e w2 ⟨v2, rfl, hown, hne, hb2⟩; obtain ⟨g2, c2, rfl, hbg2, hgl2, hnc2, -, -⟩ := Ses.row_form hown hne; have hrv := ZM.slices_Reverse_byte_byte.calls (0 + 6) (fun _ => True) (.slice (some ⟨g2, 0, none⟩) 1 c2) rr ds w1 w2 hb2 (Ses.R_clone hown HLr.out w1.heap.size (Nat.le_refl _)) HRv.out; have HRev := Lib.hid hrv; clear hown hne hb2 hrv) | (go_at_call 23; (with_reducible refine HRev.out.mono ?_); rintro e w3 ⟨rfl, hR3, hb3, -⟩; have hin3 := Ses.row_cells hR3; have hin1b := fun (i : Nat) (hi : i < 1) => bl_cell hb3 (HIn1.out i hi); have HIn3 := Lib.hid hin3; have HB3 := Lib.hid hb3; have HClB := Lib.hid (Tryd.bytes_Clone_at ⟨g, 0, none⟩ 1 cap rr w3 HLr.out (by omega) (fun i hi => Ses.add_cell2 (hin1b i hi))); clear hR3 hb3 hin3 hin1b) | (go_at_call 17; (with_reducible refine HClB.out.mono ?_); rintro e w4 ⟨v4, rfl, hown, hne, hb4⟩; obtain ⟨g4, c4, rfl, hbg4, hgl4, hnc4, -, hcl4⟩ := Ses.row_form hown hne; have HIn4 := Lib.hid hcl4; have HB4 := Lib.hid hb4; have hbC := xb_new w4 (.cells #[.int .i64 4, .int .i64 1, .bool true, .bool false] 35); have HBC := Lib.hid hbC; clear hown hne hb4 hcl4 hbC) | (go_at_call 18; (with_reducible refine (HGB.out _ ⟨g4, 0, none⟩ c4 w4.heap.size (fun i hi => ?hin) ?s0 ?s1 ?s2 ?s3).mono ?_); (case hin => exact Ses.add_cell2 (cell_alloc _ (HIn4.out i hi))); (case s0 => exact xb_cell HBC.out 0); (case s1 => exact xb_cell HBC.out 1); (case s2 => exact xb_cell HBC.out 2); (case s3 => exact xb_cell HBC.out 3); rintro e w5 ⟨dA, dn, dc, g5, c5, v5, rfl, ⟨k0, k1, k3⟩, hD, hR5, hb5⟩; have HB5 := Lib.hid hb5; have hbD := xb_new w5 (.cells #[.int .i64 4, .int .i64 1, .bool false, .bool false] 35); have HBD := Lib.hid hbD; have HIn5 := Lib.hid (fun (i : Nat) (hi : i < 1) => bl_cell hb5 (cell_alloc (.cells #[.int .i64 4, .int .i64 1, .bool true, .bool false] 35) (bl_cell HB4.out (HIn3.out i hi)))); clear hD hR5 hb5 hbD k1) | (go_at_call 18; (with_reducible refine (HGL.out _ ⟨g2, 0, none⟩ c2 w5.heap.size (fun i hi => ?hin) ?s0 ?s1 ?s2 ?s3).mono ?_); (case hin => exact Ses.add_cell2 (cell_alloc _ (HIn5.out i hi))); (case s0 => exact xb_cell HBD.out 0); (case s1 => exact xb_cell HBD.out 1); (case s2 => exact xb_cell HBD.out 2); (case s3 => exact xb_cell HBD.out 3); rintro e w6 ⟨eA, en, ec, g6, c6, v6, rfl, ⟨m0, m1, m3⟩, hD6, hR6, hb6⟩; have j0 := bl_cell hb6 (cell_alloc (.cells #[.int .i64 4, .int .i64 1, .bool false, .bool false] 35) k0); have j3 := bl_cell hb6 (cell_alloc (.cells #[.int .i64 4, .int .i64 1, .bool false, .bool false] 35) k3); have HB6 := Lib.hid hb6; clear hD6 hR6 hb6 m1 k0 k3) | (go_at_call 14; (with_reducible refine (sessionLive_calls _).mono ?_); rintro e w7 ⟨rfl, hb7⟩))
      go_ret
      have hZ := (below_alloc (Below.refl w.heap.size w) (.cells #[.int .i64 1, .int .i64 2, .int .i64 4, .int .i64 8] 3))
      have hY1 := hZ.trans (HB1.out.mono hZ.size)
      have hY3 := hY1.trans (HB3.out.mono hY1.size)
      have hY4 := below_alloc (hY3.trans (HB4.out.mono hY3.size)) (.cells #[.int .i64 4, .int .i64 1, .bool true, .bool false] 35)
      have hY5 := below_alloc (hY4.trans (HB5.out.mono hY4.size)) (.cells #[.int .i64 4, .int .i64 1, .bool false, .bool false] 35)
      have hY6 := hY5.trans (HB6.out.mono hY5.size)
      exact ⟨rfl, hY6.trans (hb7.mono hY6.size)⟩
    · clear em
      have hlen := Ses.plainL_len 2 n
      obtain ⟨K, hf⟩ := Ses.plain_f 2 (by omega) n
      rw [show ((2 : Nat) : Int) = 2 from rfl] at hf
      have hgb := fun (W : World) (b g c : Nat) h => got_be n z0 2 (by omega) (by omega) W b g c h
      have hgl := fun (W : World) (b g c : Nat) h => got_le n z0 2 (by omega) (by omega) W b g c h
      have hmask : Go.bits .and .u64 n 65535 = n % 256 ^ 2 := Ses.maskN 16 n z0 z1 (by omega)
      generalize n % 256 ^ 2 = N at *
      obtain ⟨ds, hds⟩ : ∃ ds, ds = Ses.plainL 2 n := ⟨_, rfl⟩
      obtain ⟨rr, hrr⟩ : ∃ rr, rr = ds.reverse := ⟨_, rfl⟩
      rw [← hds] at hf hgb hgl hlen
      rw [← hrr] at hf hgb
      have hlr : rr.length = 2 := by rw [hrr, List.length_reverse, hlen]
      have hrev : ZM.slices_Reverse_byte_byte.f (0 + 6) rr = some ds := by rw [Ses.rev_small 0 rr (by omega), hrr, List.reverse_reverse]
      have hgB := fun (W : World) (a : Addr) (cI g0 : Nat) hin s0 s1 s2 s3 => get_one (fun _ d => Value.slice none 0 0 = d) (fun _ _ _ h _ => h) 4 ((2 : Nat) : Int) true false false rr 2 (wrap64 N) (by omega) (by omega) (by omega) (fun W2 b g c hrs => hgb W2 b g c hrs) W a cI g0 hin s0 s1 s2 s3
      have hgL := fun (W : World) (a : Addr) (cI g0 : Nat) hin s0 s1 s2 s3 => get_one (fun _ d => Value.slice none 0 0 = d) (fun _ _ _ h _ => h) 4 ((2 : Nat) : Int) false false false ds 2 (wrap64 N) (by omega) (by omega) (by omega) (fun W2 b g c hrs => hgl W2 b g c hrs) W a cI g0 hin s0 s1 s2 s3
      rw [hlr] at hgB
      rw [hlen] at hgL
      have HGB := Lib.hid hgB
      have HGL := Lib.hid hgL
      have HPl := Lib.hid (fun W => ZM.spec_SessionPlain.calls K n 2 true rr W hf)
      have HLr := Lib.hid hlr
      have HLd := Lib.hid hlen
      have HRv := Lib.hid hrev
      clear hgB hgL hgb hgl hf hds hrr hlr hlen hrev
      go_enter Tryd.func7, Tryd.ntmps7
      go_wp2_with (first | (go_at_call 22; (with_reducible refine (HPl.out _).mono ?_); rintro e w1 ⟨v0, rfl, hR, hb1⟩; obtain ⟨g, cap, rfl, hbg, hgl, hblk⟩ := Kd.R_form hR (by rw [HLr.out]; omega); (rw [HLr.out] at hR ⊢); have hin1 := Ses.row_cells hR; have HIn1 := Lib.hid hin1; have HB1 := Lib.hid hb1; have HClA := Lib.hid (Tryd.bytes_Clone_at ⟨g, 0, none⟩ 2 cap rr w1 HLr.out (by omega) (fun i hi => Ses.add_cell2 (hin1 i hi))); clear hR hb1 hblk hin1) | (go_at_call 17; (with_reducible refine HClA.out.mono ?_); rintro e w2 ⟨v2, rfl, hown, hne, hb2⟩; obtain ⟨g2, c2, rfl, hbg2, hgl2, hnc2, -, -⟩ := Ses.row_form hown hne; have hrv := ZM.slices_Reverse_byte_byte.calls (0 + 6) (fun _ => True) (.slice (some ⟨g2, 0, none⟩) 2 c2) rr ds w1 w2 hb2 (Ses.R_clone hown HLr.out w1.heap.size (Nat.le_refl _)) HRv.out; have HRev := Lib.hid hrv; clear hown hne hb2 hrv) | (go_at_call 23; (with_reducible refine HRev.out.mono ?_); rintro e w3 ⟨rfl, hR3, hb3, -⟩; have hin3 := Ses.row_cells hR3; have hin1b := fun (i : Nat) (hi : i < 2) => bl_cell hb3 (HIn1.out i hi); have HIn3 := Lib.hid hin3; have HB3 := Lib.hid hb3; have HClB := Lib.hid (Tryd.bytes_Clone_at ⟨g, 0, none⟩ 2 cap rr w3 HLr.out (by omega) (fun i hi => Ses.add_cell2 (hin1b i hi))); clear hR3 hb3 hin3 hin1b) | (go_at_call 17; (with_reducible refine HClB.out.mono ?_); rintro e w4 ⟨v4, rfl, hown, hne, hb4⟩; obtain ⟨g4, c4, rfl, hbg4, hgl4, hnc4, -, hcl4⟩ := Ses.row_form hown hne; have HIn4 := Lib.hid hcl4; have HB4 := Lib.hid hb4; have hbC := xb_new w4 (.cells #[.int .i64 4, .int .i64 2, .bool true, .bool false] 35); have HBC := Lib.hid hbC; clear hown hne hb4 hcl4 hbC) | (go_at_call 18; (with_reducible refine (HGB.out _ ⟨g4, 0, none⟩ c4 w4.heap.size (fun i hi => ?hin) ?s0 ?s1 ?s2 ?s3).mono ?_); (case hin => exact Ses.add_cell2 (cell_alloc _ (HIn4.out i hi))); (case s0 => exact xb_cell HBC.out 0); (case s1 => exact xb_cell HBC.out 1); (case s2 => exact xb_cell HBC.out 2); (case s3 => exact xb_cell HBC.out 3); rintro e w5 ⟨dA, dn, dc, g5, c5, v5, rfl, ⟨k0, k1, k3⟩, hD, hR5, hb5⟩; have HB5 := Lib.hid hb5; have hbD := xb_new w5 (.cells #[.int .i64 4, .int .i64 2, .bool false, .bool false] 35); have HBD := Lib.hid hbD; have HIn5 := Lib.hid (fun (i : Nat) (hi : i < 2) => bl_cell hb5 (cell_alloc (.cells #[.int .i64 4, .int .i64 2, .bool true, .bool false] 35) (bl_cell HB4.out (HIn3.out i hi)))); clear hD hR5 hb5 hbD k1) | (go_at_call 18; (with_reducible refine (HGL.out _ ⟨g2, 0, none⟩ c2 w5.heap.size (fun i hi => ?hin) ?s0 ?s1 ?s2 ?s3).mono ?_); (case hin => exact Ses.add_cell2 (cell_alloc _ (HIn5.out i hi))); (case s0 => exact xb_cell HBD.out 0); (case s1 => exact xb_cell HBD.out 1); (case s2 => exact xb_cell HBD.out 2); (case s3 => exact xb_cell HBD.out 3); rintro e w6 ⟨eA, en, ec, g6, c6, v6, rfl, ⟨m0, m1, m3⟩, hD6, hR6, hb6⟩; have j0 := bl_cell hb6 (cell_alloc (.cells #[.int .i64 4, .int .i64 2, .bool false, .bool false] 35) k0); have j3 := bl_cell hb6 (cell_alloc (.cells #[.int .i64 4, .int .i64 2, .bool false, .bool false] 35) k3); have HB6 := Lib.hid hb6; clear hD6 hR6 hb6 m1 k0 k3) | (go_at_call 14; (with_reducible refine (sessionLive_calls _).mono ?_); rintro e w7 ⟨rfl, hb7⟩))
      go_ret
      have hZ := (below_alloc (Below.refl w.heap.size w) (.cells #[.int .i64 1, .int .i64 2, .int .i64 4, .int .i64 8] 3))
      have hY1 := hZ.trans (HB1.out.mono hZ.size)
      have hY3 := hY1.trans (HB3.out.mono hY1.size)
      have hY4 := below_alloc (hY3.trans (HB4.out.mono hY3.size)) (.cells #[.int .i64 4, .int .i64 2, .bool true, .bool false] 35)
      have hY5 := below_alloc (hY4.trans (HB5.out.mono hY4.size)) (.cells #[.int .i64 4, .int .i64 2, .bool false, .bool false] 35)
      have hY6 := hY5.trans (HB6.out.mono hY5.size)
      exact ⟨rfl, hY6.trans (hb7.mono hY6.size)⟩
    · clear em
      have hlen := Ses.plainL_len 4 n
      obtain ⟨K, hf⟩ := Ses.plain_f 4 (by omega) n
      rw [show ((4 : Nat) : Int) = 4 from rfl] at hf
      have hgb := fun (W : World) (b g c : Nat) h => got_be n z0 4 (by omega) (by omega) W b g c h
      have hgl := fun (W : World) (b g c : Nat) h => got_le n z0 4 (by omega) (by omega) W b g c h
      have hmask : Go.bits .and .u64 n 4294967295 = n % 256 ^ 4 := Ses.maskN 32 n z0 z1 (by omega)
      generalize n % 256 ^ 4 = N at *
      obtain ⟨ds, hds⟩ : ∃ ds, ds = Ses.plainL 4 n := ⟨_, rfl⟩
      obtain ⟨rr, hrr⟩ : ∃ rr, rr = ds.reverse := ⟨_, rfl⟩
      rw [← hds] at hf hgb hgl hlen
      rw [← hrr] at hf hgb
      have hlr : rr.length = 4 := by rw [hrr, List.length_reverse, hlen]
      have hrev : ZM.slices_Reverse_byte_byte.f (0 + 6) rr = some ds := by rw [Ses.rev_small 0 rr (by omega), hrr, List.reverse_reverse]
      have hgB := fun (W : World) (a : Addr) (cI g0 : Nat) hin s0 s1 s2 s3 => get_one (fun _ d => Value.slice none 0 0 = d) (fun _ _ _ h _ => h) 4 ((4 : Nat) : Int) true false false rr 4 (wrap64 N) (by omega) (by omega) (by omega) (fun W2 b g c hrs => hgb W2 b g c hrs) W a cI g0 hin s0 s1 s2 s3
      have hgL := fun (W : World) (a : Addr) (cI g0 : Nat) hin s0 s1 s2 s3 => get_one (fun _ d => Value.slice none 0 0 = d) (fun _ _ _ h _ => h) 4 ((4 : Nat) : Int) false false false ds 4 (wrap64 N) (by omega) (by omega) (by omega) (fun W2 b g c hrs => hgl W2 b g c hrs) W a cI g0 hin s0 s1 s2 s3
      rw [hlr] at hgB
      rw [hlen] at hgL
      have HGB := Lib.hid hgB
      have HGL := Lib.hid hgL
      have HPl := Lib.hid (fun W => ZM.spec_SessionPlain.calls K n 4 true rr W hf)
      have HLr := Lib.hid hlr
      have HLd := Lib.hid hlen
      have HRv := Lib.hid hrev
      clear hgB hgL hgb hgl hf hds hrr hlr hlen hrev
      go_enter Tryd.func7, Tryd.ntmps7
      go_wp2_with (first | (go_at_call 22; (with_reducible refine (HPl.out _).mono ?_); rintro e w1 ⟨v0, rfl, hR, hb1⟩; obtain ⟨g, cap, rfl, hbg, hgl, hblk⟩ := Kd.R_form hR (by rw [HLr.out]; omega); (rw [HLr.out] at hR ⊢); have hin1 := Ses.row_cells hR; have HIn1 := Lib.hid hin1; have HB1 := Lib.hid hb1; have HClA := Lib.hid (Tryd.bytes_Clone_at ⟨g, 0, none⟩ 4 cap rr w1 HLr.out (by omega) (fun i hi => Ses.add_cell2 (hin1 i hi))); clear hR hb1 hblk hin1) | (go_at_call 17; (with_reducible refine HClA.out.mono ?_); rintro e w2 ⟨v2, rfl, hown, hne, hb2⟩; obtain ⟨g2, c2, rfl, hbg2, hgl2, hnc2, -, -⟩ := Ses.row_form hown hne; have hrv := ZM.slices_Reverse_byte_byte.calls (0 + 6) (fun _ => True) (.slice (some ⟨g2, 0, none⟩) 4 c2) rr ds w1 w2 hb2 (Ses.R_clone hown HLr.out w1.heap.size (Nat.le_refl _)) HRv.out; have HRev := Lib.hid hrv; clear hown hne hb2 hrv) | (go_at_call 23; (with_reducible refine HRev.out.mono ?_); rintro e w3 ⟨rfl, hR3, hb3, -⟩; have hin3 := Ses.row_cells hR3; have hin1b := fun (i : Nat) (hi : i < 4) => bl_cell hb3 (HIn1.out i hi); have HIn3 := Lib.hid hin3; have HB3 := Lib.hid hb3; have HClB := Lib.hid (Tryd.bytes_Clone_at ⟨g, 0, none⟩ 4 cap rr w3 HLr.out (by omega) (fun i hi => Ses.add_cell2 (hin1b i hi))); clear hR3 hb3 hin3 hin1b) | (go_at_call 17; (with_reducible refine HClB.out.mono ?_); rintro e w4 ⟨v4, rfl, hown, hne, hb4⟩; obtain ⟨g4, c4, rfl, hbg4, hgl4, hnc4, -, hcl4⟩ := Ses.row_form hown hne; have HIn4 := Lib.hid hcl4; have HB4 := Lib.hid hb4; have hbC := xb_new w4 (.cells #[.int .i64 4, .int .i64 4, .bool true, .bool false] 35); have HBC := Lib.hid hbC; clear hown hne hb4 hcl4 hbC) | (go_at_call 18; (with_reducible refine (HGB.out _ ⟨g4, 0, none⟩ c4 w4.heap.size (fun i hi => ?hin) ?s0 ?s1 ?s2 ?s3).mono ?_); (case hin => exact Ses.add_cell2 (cell_alloc _ (HIn4.out i hi))); (case s0 => exact xb_cell HBC.out 0); (case s1 => exact xb_cell HBC.out 1); (case s2 => exact xb_cell HBC.out 2); (case s3 => exact xb_cell HBC.out 3); rintro e w5 ⟨dA, dn, dc, g5, c5, v5, rfl, ⟨k0, k1, k3⟩, hD, hR5, hb5⟩; have HB5 := Lib.hid hb5; have hbD := xb_new w5 (.cells #[.int .i64 4, .int .i64 4, .bool false, .bool false] 35); have HBD := Lib.hid hbD; have HIn5 := Lib.hid (fun (i : Nat) (hi : i < 4) => bl_cell hb5 (cell_alloc (.cells #[.int .i64 4, .int .i64 4, .bool true, .bool false] 35) (bl_cell HB4.out (HIn3.out i hi)))); clear hD hR5 hb5 hbD k1) | (go_at_call 18; (with_reducible refine (HGL.out _ ⟨g2, 0, none⟩ c2 w5.heap.size (fun i hi => ?hin) ?s0 ?s1 ?s2 ?s3).mono ?_); (case hin => exact Ses.add_cell2 (cell_alloc _ (HIn5.out i hi))); (case s0 => exact xb_cell HBD.out 0); (case s1 => exact xb_cell HBD.out 1); (case s2 => exact xb_cell HBD.out 2); (case s3 => exact xb_cell HBD.out 3); rintro e w6 ⟨eA, en, ec, g6, c6, v6, rfl, ⟨m0, m1, m3⟩, hD6, hR6, hb6⟩; have j0 := bl_cell hb6 (cell_alloc (.cells #[.int .i64 4, .int .i64 4, .bool false, .bool false] 35) k0); have j3 := bl_cell hb6 (cell_alloc (.cells #[.int .i64 4, .int .i64 4, .bool false, .bool false] 35) k3); have HB6 := Lib.hid hb6; clear hD6 hR6 hb6 m1 k0 k3) | (go_at_call 14; (with_reducible refine (sessionLive_calls _).mono ?_); rintro e w7 ⟨rfl, hb7⟩))
      go_ret
      have hZ := (below_alloc (Below.refl w.heap.size w) (.cells #[.int .i64 1, .int .i64 2, .int .i64 4, .int .i64 8] 3))
      have hY1 := hZ.trans (HB1.out.mono hZ.size)
      have hY3 := hY1.trans (HB3.out.mono hY1.size)
      have hY4 := below_alloc (hY3.trans (HB4.out.mono hY3.size)) (.cells #[.int .i64 4, .int .i64 4, .bool true, .bool false] 35)
      have hY5 := below_alloc (hY4.trans (HB5.out.mono hY4.size)) (.cells #[.int .i64 4, .int .i64 4, .bool false, .bool false] 35)
      have hY6 := hY5.trans (HB6.out.mono hY5.size)
      exact ⟨rfl, hY6.trans (hb7.mono hY6.size)⟩
    · clear em
      have hlen := Ses.plainL_len 8 n
      obtain ⟨K, hf⟩ := Ses.plain_f 8 (by omega) n
      rw [show ((8 : Nat) : Int) = 8 from rfl] at hf
      have hgb := fun (W : World) (b g c : Nat) h => got_be n z0 8 (by omega) (by omega) W b g c h
      have hgl := fun (W : World) (b g c : Nat) h => got_le n z0 8 (by omega) (by omega) W b g c h
      have h8 : n % 256 ^ 8 = n := by have e : (256 : Int) ^ 8 = 18446744073709551616 := by decide
                                      rw [e]; omega
      rw [h8] at hgb hgl
      obtain ⟨ds, hds⟩ : ∃ ds, ds = Ses.plainL 8 n := ⟨_, rfl⟩
      obtain ⟨rr, hrr⟩ : ∃ rr, rr = ds.reverse := ⟨_, rfl⟩
      rw [← hds] at hf hgb hgl hlen
      rw [← hrr] at hf hgb
      have hlr : rr.length = 8 := by rw [hrr, List.length_reverse, hlen]
      have hrev : ZM.slices_Reverse_byte_byte.f (0 + 6) rr = some ds := by rw [Ses.rev_small 0 rr (by omega), hrr, List.reverse_reverse]
      have hgB := fun (W : World) (a : Addr) (cI g0 : Nat) hin s0 s1 s2 s3 => get_one (fun _ d => Value.slice none 0 0 = d) (fun _ _ _ h _ => h) 4 ((8 : Nat) : Int) true false false rr 8 (wrap64 n) (by omega) (by omega) (by omega) (fun W2 b g c hrs => hgb W2 b g c hrs) W a cI g0 hin s0 s1 s2 s3
      have hgL := fun (W : World) (a : Addr) (cI g0 : Nat) hin s0 s1 s2 s3 => get_one (fun _ d => Value.slice none 0 0 = d) (fun _ _ _ h _ => h) 4 ((8 : Nat) : Int) false false false ds 8 (wrap64 n) (by omega) (by omega) (by omega) (fun W2 b g c hrs => hgl W2 b g c hrs) W a cI g0 hin s0 s1 s2 s3
      rw [hlr] at hgB
      rw [hlen] at hgL
      have HGB := Lib.hid hgB
      have HGL := Lib.hid hgL
      have HPl := Lib.hid (fun W => ZM.spec_SessionPlain.calls K n 8 true rr W hf)
      have HLr := Lib.hid hlr
      have HLd := Lib.hid hlen
      have HRv := Lib.hid hrev
      clear hgB hgL hgb hgl hf hds hrr hlr hlen hrev
      go_enter Tryd.func7, Tryd.ntmps7
      go_wp2_with (first | (go_at_call 22; (with_reducible refine (HPl.out _).mono ?_); rintro e w1 ⟨v0, rfl, hR, hb1⟩; obtain ⟨g, cap, rfl, hbg, hgl, hblk⟩ := Kd.R_form hR (by rw [HLr.out]; omega); (rw [HLr.out] at hR ⊢); have hin1 := Ses.row_cells hR; have HIn1 := Lib.hid hin1; have HB1 := Lib.hid hb1; have HClA := Lib.hid (Tryd.bytes_Clone_at ⟨g, 0, none⟩ 8 cap rr w1 HLr.out (by omega) (fun i hi => Ses.add_cell2 (hin1 i hi))); clear hR hb1 hblk hin1) | (go_at_call 17; (with_reducible refine HClA.out.mono ?_); rintro e w2 ⟨v2, rfl, hown, hne, hb2⟩; obtain ⟨g2, c2, rfl, hbg2, hgl2, hnc2, -, -⟩ := Ses.row_form hown hne; have hrv := ZM.slices_Reverse_byte_byte.calls (0 + 6) (fun _ => True) (.slice (some ⟨g2, 0, none⟩) 8 c2) rr ds w1 w2 hb2 (Ses.R_clone hown HLr.out w1.heap.size (Nat.le_refl _)) HRv.out; have HRev := Lib.hid hrv; clear hown hne hb2 hrv) | (go_at_call 23; (with_reducible refine HRev.out.mono ?_); rintro e w3 ⟨rfl, hR3, hb3, -⟩; have hin3 := Ses.row_cells hR3; have hin1b := fun (i : Nat) (hi : i < 8) => bl_cell hb3 (HIn1.out i hi); have HIn3 := Lib.hid hin3; have HB3 := Lib.hid hb3; have HClB := Lib.hid (Tryd.bytes_Clone_at ⟨g, 0, none⟩ 8 cap rr w3 HLr.out (by omega) (fun i hi => Ses.add_cell2 (hin1b i hi))); clear hR3 hb3 hin3 hin1b) | (go_at_call 17; (with_reducible refine HClB.out.mono ?_); rintro e w4 ⟨v4, rfl, hown, hne, hb4⟩; obtain ⟨g4, c4, rfl, hbg4, hgl4, hnc4, -, hcl4⟩ := Ses.row_form hown hne; have HIn4 := Lib.hid hcl4; have HB4 := Lib.hid hb4; have hbC := xb_new w4 (.cells #[.int .i64 4, .int .i64 8, .bool true, .bool false] 35); have HBC := Lib.hid hbC; clear hown hne hb4 hcl4 hbC) | (go_at_call 18; (with_reducible refine (HGB.out _ ⟨g4, 0, none⟩ c4 w4.heap.size (fun i hi => ?hin) ?s0 ?s1 ?s2 ?s3).mono ?_); (case hin => exact Ses.add_cell2 (cell_alloc _ (HIn4.out i hi))); (case s0 => exact xb_cell HBC.out 0); (case s1 => exact xb_cell HBC.out 1); (case s2 => exact xb_cell HBC.out 2); (case s3 => exact xb_cell HBC.out 3); rintro e w5 ⟨dA, dn, dc, g5, c5, v5, rfl, ⟨k0, k1, k3⟩, hD, hR5, hb5⟩; have HB5 := Lib.hid hb5; have hbD := xb_new w5 (.cells #[.int .i64 4, .int .i64 8, .bool false, .bool false] 35); have HBD := Lib.hid hbD; have HIn5 := Lib.hid (fun (i : Nat) (hi : i < 8) => bl_cell hb5 (cell_alloc (.cells #[.int .i64 4, .int .i64 8, .bool true, .bool false] 35) (bl_cell HB4.out (HIn3.out i hi)))); clear hD hR5 hb5 hbD k1) | (go_at_call 18; (with_reducible refine (HGL.out _ ⟨g2, 0, none⟩ c2 w5.heap.size (fun i hi => ?hin) ?s0 ?s1 ?s2 ?s3).mono ?_); (case hin => exact Ses.add_cell2 (cell_alloc _ (HIn5.out i hi))); (case s0 => exact xb_cell HBD.out 0); (case s1 => exact xb_cell HBD.out 1); (case s2 => exact xb_cell HBD.out 2); (case s3 => exact xb_cell HBD.out 3); rintro e w6 ⟨eA, en, ec, g6, c6, v6, rfl, ⟨m0, m1, m3⟩, hD6, hR6, hb6⟩; have j0 := bl_cell hb6 (cell_alloc (.cells #[.int .i64 4, .int .i64 8, .bool false, .bool false] 35) k0); have j3 := bl_cell hb6 (cell_alloc (.cells #[.int .i64 4, .int .i64 8, .bool false, .bool false] 35) k3); have HB6 := Lib.hid hb6; clear hD6 hR6 hb6 m1 k0 k3) | (go_at_call 14; (with_reducible refine (sessionLive_calls _).mono ?_); rintro e w7 ⟨rfl, hb7⟩))
      go_ret
      have hZ := (below_alloc (Below.refl w.heap.size w) (.cells #[.int .i64 1, .int .i64 2, .int .i64 4, .int .i64 8] 3))
      have hY1 := hZ.trans (HB1.out.mono hZ.size)
      have hY3 := hY1.trans (HB3.out.mono hY1.size)
      have hY4 := below_alloc (hY3.trans (HB4.out.mono hY3.size)) (.cells #[.int .i64 4, .int .i64 8, .bool true, .bool false] 35)
      have hY5 := below_alloc (hY4.trans (HB5.out.mono hY4.size)) (.cells #[.int .i64 4, .int .i64 8, .bool false, .bool false] 35)
      have hY6 := hY5.trans (HB6.out.mono hY5.size)
      exact ⟨rfl, hY6.trans (hb7.mono hY6.size)⟩
  · cases h
end Go.Proofs.YtdnahdddkagfhaaDoor.X
