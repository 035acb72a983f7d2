/- The law FnSessionMinus: a compressed number whose first byte has the highest bit is read as the negative one. -/
import Derived.Test.YtdnahdddkagfhaaDoorMp
namespace Go.Proofs.YtdnahdddkagfhaaDoor.X
open Go.RowKit Go.Proofs.YtdnahdddkagfhaaDoorW.PrintWords Go.Proofs.YtdnahdddkagfhaaDoorW.PrintLast Go.Proofs.YtdnahdddkagfhaaDoorW.PrintMore
attribute [local go_sem] setCell_drewN alloc_drewN
set_option linter.unusedVariables false
set_option linter.unusedSimpArgs false
theorem Ses.or128 : ∀ m : Fin 9, Go.bits .or .u8 (m.val : Int) 128 = 128 + (m.val : Int) := by decide +kernel
theorem Ses.and127 : ∀ m : Fin 9, Go.bits .and .u8 (128 + (m.val : Int)) 127 = (m.val : Int) := by decide +kernel
theorem Ses.and128w : ∀ m : Fin 9, Go.bits .and .i64 (128 + (m.val : Int)) 128 = 128 := by decide +kernel
theorem Ses.and127w : ∀ m : Fin 9, Go.bits .and .i64 (128 + (m.val : Int)) 127 = (m.val : Int) := by decide +kernel
theorem Ses.add_cell2 {w : World} {g i : Nat} {v : Value} (h : w.cell? ⟨g, i, none⟩ = some v) : w.cell? ((⟨g, 0, none⟩ : Addr).add i) = some v := by
  unfold Addr.add
  split
  · rename_i hz
    have hz' : i = 0 := by simpa using hz
    subst hz'
    exact h
  · simpa using h
/-- The row whose first byte is put anew. -/
theorem Ses.put_first {w : World} {base g n cap : Nat} {rr l : List Int} {u : Int} (hR : Kd.R (Kd.int .u8) 5 w base (fun _ => True) (.slice (some ⟨g, 0, none⟩) n cap) rr) (hset : rr.set 0 u = l) :
    ∀ i : Nat, i < n → (w.setCell ⟨g, 0, none⟩ (.int .u8 u)).cell? ⟨g, i, none⟩ = some (.int .u8 (l.getD i 0)) := by
  intro i hi
  have hp := Kd.R_putn (enc := Value.int .u8) (h1 := fun _ => rfl) hR (0 : Int) u
  have hc := (Kd.R_celln (enc := Value.int .u8) (h1 := fun _ => rfl) (0 : Int) hp (i : Int) (by omega) (by omega)).1
  rw [show rr.set (0 : Int).toNat u = l from hset] at hc
  have e : rdOf (0 : Int) l (i : Int) = l.getD i 0 := by unfold rdOf; rw [Int.toNat_natCast]
  rw [e, Int.toNat_natCast] at hc
  exact hc
/-- What a reader gives of a number with the sign. -/
theorem got_minus (N : Int) (ds : List Int) (d1 : ds.length ≤ 8) (d2 : ∀ d ∈ ds, 0 ≤ d ∧ d ≤ 255) (d3 : Ses.digs ds = N) (W : World) (b g c : Nat) (l : List Int) (hl : l = (128 + (ds.length : Int)) :: ds.reverse) (h : Ses.RS W b g c l 0 false 64) :
    Calls Tryd.prog 48 #[.pointer (some ⟨b, 0, none⟩), .agg #[.int .i64 4, .int .i64 8, .bool true, .bool true]] W fun e w' => ∃ A n cc, e = .returned (.agg #[.bool true, .slice A n cc, .slice none 0 0, .int .i64 (wrap64 (-wrap64 N)), .string ⟨#[]⟩]) ∧ Value.slice none 0 0 = .slice A n cc ∧ Ses.RS w' b g c l (ds.length + 1) false 64 ∧ W.grownBy w' (some b) := by
  have hll : l.length = ds.length + 1 := by rw [hl]; simp
  have hx : l.getD 0 0 = 128 + (ds.length : Int) := by rw [hl]; rfl
  refine got_four W b g c l 0 (ds.length + 1) false 64 _ h (fun W1 h1 => long_ok W1 b g c l 0 false 64 (128 + (ds.length : Int)) ds.length h1 (by omega) hx (Ses.and127 ⟨ds.length, by omega⟩) (by omega)) (fun W1 h1 => ?_)
  by_cases h0 : ds.length = 0
  · have hd : ds = [] := List.eq_nil_of_length_eq_zero h0
    have hN : N = 0 := by rw [← d3, hd]; rfl
    have hr := getInt64_none W1 b g c l 0 false true 64 8 h1 (by rw [hx, h0]; rfl) (by omega)
    rw [hN, h0, show wrap64 (-wrap64 0) = 0 by unfold wrap64; omega]
    exact hr
  · have hby : ∀ y ∈ l, 0 ≤ y ∧ y ≤ 255 := by
      intro y hy
      rw [hl] at hy
      rcases List.mem_cons.1 hy with rfl | hy
      · omega
      · exact d2 y (List.mem_reverse.1 hy)
    have hr := getInt64_minus W1 b g c l 0 ds.length false true 64 (128 + (ds.length : Int)) 8 h1 (by omega) d1 hx (Ses.and128w ⟨ds.length, by omega⟩) (Ses.and127w ⟨ds.length, by omega⟩) (by omega) hby
    have e : (l.drop (0 + 1)).take ds.length = ds.reverse := by
      rw [hl]
      show List.take ds.length ds.reverse = _
      rw [List.take_of_length_le (by simp)]
    rw [e, Ses.beVal_rev ds d2, d3, show 0 + 1 + ds.length = ds.length + 1 by omega] at hr
    exact hr
def laws_FnSessionMinus.f (n : Int) : Option Bool := if 0 ≤ n ∧ n < 18446744073709551616 then some true else none
set_option maxHeartbeats 8000000 in
set_option maxRecDepth 100000 in
theorem laws_FnSessionMinus.calls (n : Int) (r : Bool) (w : World) (h : laws_FnSessionMinus.f n = some r) :
    Calls Tryd.prog 6 #[.int .u64 n] w fun e w' => e = .returned (.bool r) ∧ Below w.heap.size w w' := by
  unfold laws_FnSessionMinus.f at h
  split at h
  · rename_i hsz
    obtain ⟨z0, z1⟩ := hsz
    obtain rfl := Option.some.inj h
    clear h
    have hand := Ses.and63 n z0 z1
    have hN0 : 0 ≤ n % 9223372036854775808 := by omega
    have hN1 : n % 9223372036854775808 < 256 ^ 8 := by have : (256 : Int) ^ 8 = 18446744073709551616 := by decide
                                                       omega
    obtain ⟨ds, d1, d2, d3, d4, kk, hf⟩ := Ses.packed_f _ hN0 hN1
    generalize n % 9223372036854775808 = N at *
    have hG := fun W b g c l hl h => got_minus N ds d1 d2 d3 W b g c l hl h
    have hor := Ses.or128 ⟨ds.length, by omega⟩
    simp only at hor
    obtain ⟨rr, hrr⟩ : ∃ rr, rr = (ds.length : Int) :: ds.reverse := ⟨_, rfl⟩
    obtain ⟨l, hl⟩ : ∃ l, l = (128 + (ds.length : Int)) :: ds.reverse := ⟨_, rfl⟩
    rw [← hrr] at hf
    have hset : rr.set 0 (128 + (ds.length : Int)) = l := by rw [hrr, hl]; rfl
    have hrd : rdOf (0 : Int) rr 0 = (ds.length : Int) := by rw [hrr]; rfl
    have hlr : rr.length = ds.length + 1 := by rw [hrr]; simp
    have hll : l.length = ds.length + 1 := by rw [hl]; simp
    have HGl := Lib.hid (fun W b g c h => hG W b g c l hl h)
    generalize ds.length = m at *
    have hdrop : l.drop (m + 1) = [] := List.drop_eq_nil_of_le (by omega)
    have hgo := fun (W : World) (a : Addr) (cI g0 : Nat) hin s0 s1 s2 s3 => get_one (fun _ d => Value.slice none 0 0 = d) (fun _ _ _ h _ => h) 4 8 true true false l (m + 1) (wrap64 (-wrap64 N)) (by omega) (by omega) (by omega) (fun W2 b g c hrs => HGl.out W2 b g c hrs) W a cI g0 hin s0 s1 s2 s3
    rw [hdrop, hll] at hgo
    have HGet := Lib.hid hgo
    have HPk := Lib.hid (fun W => ZM.spec_SessionPacked.calls kk N rr W hf)
    have HLr := Lib.hid hlr
    have HRd := Lib.hid hrd
    have HSet := Lib.hid hset
    clear hG hgo hf hl hrr hrd hset hlr hll hdrop d2 d3 d4
    go_enter Tryd.func6, Tryd.ntmps6
    go_wp2_with (first | (go_at_call 21; (with_reducible refine (HPk.out _).mono ?_); rintro e w1 ⟨v0, rfl, hR, hb⟩; (have hpos : 0 < rr.length := by rw [HLr.out]; exact Nat.succ_pos _); obtain ⟨g, cap, rfl, hbg, hgl, hblk⟩ := Kd.R_form hR hpos; (rw [HLr.out] at hR ⊢); have HB := Lib.hid hb; obtain ⟨x0, x1⟩ := Kd.R_celln (enc := Value.int .u8) (h1 := fun _ => rfl) (0 : Int) hR (0 : Int) (Int.le_refl _) (by omega); (rw [HRd.out] at x0); (change w1.cell? ⟨g, 0, none⟩ = _ at x0); (change w1.frozen? ⟨g, 0, none⟩ = _ at x1); have HIn := Lib.hid (Ses.put_first hR HSet.out); have hbC := xb_new (w1.setCell ⟨g, 0, none⟩ (.int .u8 (128 + (m : Int)))) (.cells #[.int .i64 4, .int .i64 8, .bool true, .bool true] 35); (rw [World.size_setCell] at hbC); have HBC := Lib.hid hbC; clear hR hb hblk hbC) | (go_at_call 18; (with_reducible refine (HGet.out _ ⟨g, 0, none⟩ cap w1.heap.size (fun i hi => ?hin) ?s0 ?s1 ?s2 ?s3).mono ?_); (case hin => exact Ses.add_cell2 (cell_alloc _ (HIn.out i hi))); (case s0 => exact xb_cell HBC.out 0); (case s1 => exact xb_cell HBC.out 1); (case s2 => exact xb_cell HBC.out 2); (case s3 => exact xb_cell HBC.out 3); rintro e w2 ⟨dA, dn, dc, g2, c2, v2, rfl, ⟨k0, k1, k3⟩, hD, hR2, hb2⟩; obtain ⟨A3, c3, rfl, hle3, hC3⟩ := Kd.R_reads hR2; have HB2 := Lib.hid hb2; clear hR2 hb2 hC3) | (go_at_call 14; (with_reducible refine (sessionLive_calls _).mono ?_); rintro e w3 ⟨rfl, hb3⟩))
    go_ret
    have hX := below_alloc (HB.out.setCell (p := ⟨g, 0, none⟩) hbg (.int .u8 (128 + (m : Int)))) (.cells #[.int .i64 4, .int .i64 8, .bool true, .bool true] 35)
    have hY := hX.trans (HB2.out.mono hX.size)
    exact ⟨rfl, hY.trans (hb3.mono hY.size)⟩
  · cases h
end Go.Proofs.YtdnahdddkagfhaaDoor.X
