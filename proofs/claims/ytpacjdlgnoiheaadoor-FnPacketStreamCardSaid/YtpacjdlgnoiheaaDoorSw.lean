/- The law FnPacketStream: its walk. -/
import Derived.Test.YtpacjdlgnoiheaaDoorSt
import Derived.Test.YtpacjdlgnoiheaaDoorZS
import Derived.Test.YtpacjdlgnoiheaaDoorPv
import Derived.Deep.QuietTactic
import Derived.Deep.RegionHeld3
namespace Go.Proofs.YtpacjdlgnoiheaaDoor.X
open Go Go.RowKit Go.Proofs.YtpacjdlgnoiheaaDoorW.PrintWords Go.Proofs.YtpacjdlgnoiheaaDoorW.PrintLast Go.Proofs.YtpacjdlgnoiheaaDoorW.PrintMore
attribute [local go_sem] setCell_drewN alloc_drewN
set_option linter.unusedVariables false
theorem xC_take {k : IntKind} {w : World} {A : Option Addr} {n : Nat} {l : List Int} (h : Kd.C (Kd.int k) w A n l) (j : Nat) (hj : j ≤ n) : Kd.C (Kd.int k) w A (l.take j).length (l.take j) := by
  obtain ⟨h1, h2, h3⟩ := h
  have hl : (l.take j).length = j := by rw [List.length_take]; omega
  refine ⟨rfl, by omega, fun hp => ?_⟩
  obtain ⟨ad, e, hc⟩ := h3 (by omega)
  refine ⟨ad, e, fun q p hq => ?_⟩
  refine hc q p ?_
  rw [List.getElem?_take] at hq
  split at hq
  · exact hq
  · cases hq
abbrev ctxO (a0 a1 a2 a3 a4 a5 a6 a7 a8 : Int) (a9 : Bool) : Obj := .cells #[.int .u16 a0, .int .u16 a1, .int .u16 a2, .int .u16 a3, .int .u16 a4, .int .u8 a5, .int .u8 a6, .int .u32 a7, .int .u32 a8, .bool a9] 34
theorem long_pl (a0 a1 a2 a3 a4 a5 a6 a7 a8 : Int) (a9 : Bool) : ZS.spec_PacketLong.f a0 a1 a2 a3 a4 a5 a6 a7 a8 a9 = some (longOf a9 a0) := by
  unfold ZS.spec_PacketLong.f ZS.spec_packetLong.f longOf
  cases a9 <;> simp
set_option maxRecDepth 100000 in
set_option maxHeartbeats 8000000 in
theorem stream_main (k0 : Nat) (a0 a1 a2 a3 a4 a5 a6 a7 a8 : Int) (a9 : Bool) (A1 : Option Addr) (c1 : Nat) (ls : List (List Int)) (w : World) (hr : Kd.C (Kd.slice 5 (Kd.int .u8)) w A1 ls.length ls) (hc : ls.length ≤ c1) (hb : ∀ d ∈ ls, Byt d) (h12 : ls.length ≤ 12)
    (hz : ZS.laws_zzFits9.f k0 ls = some true) :
    Calls Tryd.prog 5 #[ctxW a0 a1 a2 a3 a4 a5 a6 a7 a8 a9, .slice A1 ls.length c1] w fun e w' => e = .returned (.bool true) ∧ Below w.heap.size w w' := by
  have hZ : Hid (∀ W, Below w.heap.size w W → Calls Tryd.prog 18 #[.slice A1 ls.length c1] W fun e w' => e = .returned (.bool true) ∧ Drawn0 W w') := Lib.hid fun W hW => ZS.laws_zzFits9.calls k0 A1 c1 ls true W (Kd.C_below hr hW) hc hz
  have t12 : decide ((ls.length : Int) > 12) = false := by simp; omega
  have hAt : Hid (∀ W, Below w.heap.size w W → ∀ i : Nat, i < ls.length → ∃ ad A c, A1 = some ad ∧ W.cell? (ad.add i) = some (.slice A (ls.getD i []).length c) ∧ (ls.getD i []).length ≤ c ∧ Kd.C (Kd.int .u8) W A (ls.getD i []).length (ls.getD i [])) := Lib.hid fun W hW i hi => by
    obtain ⟨ad, A, c, e1, h1, h2, h3⟩ := ZS.at_L1 (Kd.C_below hr hW) (i : Int) (by omega) (by omega)
    have e : ZS.rd_L1 ls (i : Int) = ls.getD i [] := rfl
    rw [e] at h1 h2 h3
    exact ⟨ad, A, c, e1, h1, h2, h3⟩
  have HBy : Hid (∀ i : Nat, i < ls.length → Byt (ls.getD i [])) := Lib.hid fun i hi => hb _ (by rw [List.getD_eq_getElem?_getD, List.getElem?_eq_getElem hi]; exact List.getElem_mem _)
  have HA0 : Hid (Below w.heap.size w (w.alloc (ctxO a0 a1 a2 a3 a4 a5 a6 a7 a8 a9))) := Lib.hid ((Below.refl _ _).alloc (Nat.le_refl _) _)
  have HAs : Hid ((w.alloc (ctxO a0 a1 a2 a3 a4 a5 a6 a7 a8 a9)).heap.size = w.heap.size + 1) := Lib.hid (World.size_alloc _ _)
  have HAb : Hid ((w.alloc (ctxO a0 a1 a2 a3 a4 a5 a6 a7 a8 a9)).heap[w.heap.size]? = some (ctxO a0 a1 a2 a3 a4 a5 a6 a7 a8 a9)) := Lib.hid (xb_new _ _)
  clear hr hz hb
  go_enter Tryd.func5, Tryd.ntmps5
  go_wp2_with (go_at_call 18; (with_reducible refine (hZ.out _ HA0.out).mono ?_); rintro e w1 ⟨rfl, n1, rfl⟩)
  have HW1 : Hid (Below (w.heap.size + 1) (w.alloc (ctxO a0 a1 a2 a3 a4 a5 a6 a7 a8 a9)) ((w.alloc (ctxO a0 a1 a2 a3 a4 a5 a6 a7 a8 a9)).drewN n1)) := Lib.hid (by have := bl_drewN (w.alloc (ctxO a0 a1 a2 a3 a4 a5 a6 a7 a8 a9)) n1; rw [World.size_alloc] at this; exact this)
  have HL0 : Hid (flat (longOf a9 a0) (ls.take 0) = []) := Lib.hid rfl
  generalize w.alloc (ctxO a0 a1 a2 a3 a4 a5 a6 a7 a8 a9) = wA at *
  generalize wA.drewN n1 = w1 at *
  go_loopw [5, 25] (fun v5 v25 wr => ∃ i : Nat, i ≤ ls.length ∧ v25 = .int .i64 i ∧ Hid (Below (w.heap.size + 1) wA wr) ∧ Hid (Kd.R (Kd.int .u8) 5 wr (w.heap.size + 1) (fun _ => True) v5 (flat (longOf a9 a0) (ls.take i))) ∧ Hid (∀ d ∈ ls.take i, d.length ≤ 1000)) (fun _ v25 _ => ls.length - (intOf v25).toNat)
  case atStart => exact ⟨0, Nat.zero_le _, rfl, HW1, Lib.hid (by rw [HL0.out]; exact Kd.R_nil _ _ _ _ _), Lib.hid (by simp)⟩
  case round =>
    clear HW1 HL0
    obtain ⟨i, hi, rfl, HB, HR, HS⟩ := hrel
    have HBw := Lib.hid (HA0.out.trans (HB.out.mono (by omega)))
    by_cases hlt : i < ls.length
    · obtain ⟨ad, A, c, e1, x0, hcA, hC⟩ := hAt.out _ HBw.out i hlt
      subst e1
      have HCd := Lib.hid hC
      have HY := Lib.hid (HBy.out i hlt)
      have HFt := Lib.hid (flat_take (longOf a9 a0) ls i hlt)
      have HSt : Hid ((ls.getD i []).length ≤ 1000 → ∀ d ∈ ls.take (i + 1), d.length ≤ 1000) := Lib.hid fun hq d hd => by
        rw [List.take_succ_eq_append_getElem hlt, List.mem_append] at hd
        rcases hd with hd | hd
        · exact HS.out d hd
        · rw [List.mem_singleton] at hd
          rw [hd]
          have : ls.getD i [] = ls[i] := by rw [List.getD_eq_getElem?_getD, List.getElem?_eq_getElem hlt]; rfl
          rw [this] at hq
          exact hq
      have HFl := Lib.hid (flat_length (longOf a9 a0) (ls.take i) HS.out)
      clear hC
      generalize ls.getD i [] = d at *
      by_cases hbig : (d.length : Int) > 1000
      · have tb : decide ((d.length : Int) > 1000) = true := decide_eq_true hbig
        clear hbig
        go_wp2_with (go_at_call 9; (with_reducible refine (laws_packetAwake.calls true _ rfl).mono ?_); rintro e w3 ⟨rfl, hb3⟩)
        go_ret
        exact ⟨rfl, bl_trans HBw.out hb3⟩
      · have tb : decide ((d.length : Int) > 1000) = false := decide_eq_false hbig
        have hd1 : d.length ≤ 1000 := by omega
        have HS' := Lib.hid (HSt.out hd1)
        clear hbig HSt
        obtain ⟨b0, b1, b2, b3, b4, b5, b6, b7, b8, b9⟩ := ctx_cells (blk_bl HAb.out HB.out (by omega))
        have hsz : w.heap.size + 1 ≤ wr.heap.size := by have := HB.out.size; have := HAs.out; omega
        have htk : (ls.take i).length ≤ 12 := by rw [List.length_take]; omega
        have hflat : (flat (longOf a9 a0) (ls.take i)).length ≤ 20000 := by have := HFl.out; omega
        go_wp2
        go_region_held3 (fun w' => w'.cell? ⟨w.heap.size, 0, none⟩ = some (Value.int .u16 a0) ∧ w'.cell? ⟨w.heap.size, 1, none⟩ = some (Value.int .u16 a1) ∧ w'.cell? ⟨w.heap.size, 2, none⟩ = some (Value.int .u16 a2) ∧ w'.cell? ⟨w.heap.size, 3, none⟩ = some (Value.int .u16 a3) ∧ w'.cell? ⟨w.heap.size, 4, none⟩ = some (Value.int .u16 a4) ∧ w'.cell? ⟨w.heap.size, 5, none⟩ = some (Value.int .u8 a5) ∧ w'.cell? ⟨w.heap.size, 6, none⟩ = some (Value.int .u8 a6) ∧ w'.cell? ⟨w.heap.size, 7, none⟩ = some (Value.int .u32 a7) ∧ w'.cell? ⟨w.heap.size, 8, none⟩ = some (Value.int .u32 a8) ∧ w'.cell? ⟨w.heap.size, 9, none⟩ = some (Value.bool a9)) (first | exact ⟨b0, b1, b2, b3, b4, b5, b6, b7, b8, b9⟩ | exact ⟨e0, e1, e2, e3, e4, e5, e6, e7, e8, e9⟩ | exact ⟨f0, f1, f2, f3, f4, f5, f6, f7, f8, f9⟩ | exact ⟨g0, g1, g2, g3, g4, g5, g6, g7, g8, g9⟩) (first | (go_at_call 12; refine (bytes_Clone.calls A c d d _ (Kd.C_below HCd.out (bl_drewN wr _)) hcA (by unfold bytes_Clone.f; rw [if_pos (by omega)])).mono ?_; rintro e w3 ⟨v3, rfl, hR3, hb3⟩; have HB3 := Lib.hid (bl_trans (bl_drewN wr _) hb3); obtain ⟨A3, c3, rfl, hc3, hC3⟩ := Kd.R_reads hR3; have HC3 := Lib.hid hC3; obtain ⟨e0, e1, e2, e3, e4, e5, e6, e7, e8, e9⟩ := ctx_cells (blk_bl HAb.out (HB.out.trans (HB3.out.mono hsz)) (by omega)); clear hR3 hb3 hC3) | (go_at_call 19; refine (impl_DataBytes.calls a0 a1 a2 a3 a4 a5 a6 a7 a8 a9 A3 c3 d (pkt (longOf a9 a0) d) _ HC3.out hc3 (by unfold impl_DataBytes.f; rw [if_pos (by omega)]; rfl)).mono ?_; rintro e w4 ⟨v4, rfl, hR4, hb4⟩; have HB4 := Lib.hid (bl_trans HB3.out hb4); obtain ⟨A4, c4, rfl, hc4, hC4⟩ := Kd.R_reads hR4; have HC4 := Lib.hid hC4; have hsz4 : w.heap.size + 1 ≤ w4.heap.size := Nat.le_trans hsz HB4.out.size; obtain ⟨f0, f1, f2, f3, f4, f5, f6, f7, f8, f9⟩ := ctx_cells (blk_bl HAb.out (HB.out.trans (HB4.out.mono hsz)) (by omega)); clear hR4 hb4 hC4) | ((refine Kd.R_append_rows_step (Kd.int .u8) (w0 := wA) (w.heap.size + 1) (by first | rfl | simp [Region.wanted]) (.tmp 33) (.tmp 37) 24 5 (.int .u8 0) 1 rfl Tryd.underlying24 info5x rfl (by decide) (by omega) u5 (flat (longOf a9 a0) (ls.take i)) (pkt (longOf a9 a0) d) A4 _ c4 (fun _ => True) (fun _ => False) rfl rfl (Kd.R_below HR.out HB4.out) HC4.out (fun _ _ h => h) (fun _ h => h.elim) (fun _ _ => trivial) (HB.out.trans (HB4.out.mono hsz)) hsz4 (by have := pkt_length (longOf a9 a0) d; omega) ?_); intro v9 w9 ho9 hb9 hg9 hat9; have HB9 := Lib.hid hb9; have HO9 := Lib.hid ho9; clear ho9 hg9 hat9; obtain ⟨g0, g1, g2, g3, g4, g5, g6, g7, g8, g9⟩ := ctx_cells (blk_bl HAb.out hb9 (by omega)); clear hb9))
        go_simp
        go_wp2
        go_roundw
        case rel => exact ⟨i + 1, by omega, by go_num, HB9, Lib.hid (by rw [← HFt.out]; exact HO9.out), HS'⟩
        case measure => simp [intOf]; omega
    · obtain rfl : i = ls.length := by omega
      have hR := HR.out
      rw [List.take_length] at hR
      have hS := HS.out
      rw [List.take_length] at hS
      obtain ⟨A, c, e5, hc5, hC5⟩ := Kd.R_reads hR
      subst e5
      have HC5 := Lib.hid hC5
      have HS := Lib.hid hS
      have HFl := Lib.hid (flat_length (longOf a9 a0) ls hS)
      have HFb : Hid (Byt (flat (longOf a9 a0) ls)) := Lib.hid (flat_byt _ _ fun d hd => ⟨by
        obtain ⟨j, hj, rfl⟩ := List.getElem_of_mem hd
        have := HBy.out j hj
        rw [List.getD_eq_getElem?_getD, List.getElem?_eq_getElem hj] at this
        exact this, hS d hd⟩)
      clear hR hS hC5 HR
      have hsz : w.heap.size + 1 ≤ wr.heap.size := by have := HB.out.size; have := HAs.out; omega
      obtain ⟨b0, b1, b2, b3, b4, b5, b6, b7, b8, b9⟩ := ctx_cells (blk_bl HAb.out HB.out (by omega))
      have hPL := Lib.hid (long_pl a0 a1 a2 a3 a4 a5 a6 a7 a8 a9)
      have HF0 : Hid (flat (longOf a9 a0) (ls.drop 0) = flat (longOf a9 a0) ls) := Lib.hid (by rw [List.drop_zero])
      generalize longOf a9 a0 = lg at *
      cases lg
      · go_wp2_with (go_at_call 17; (with_reducible refine (ZS.spec_PacketLong.calls a0 a1 a2 a3 a4 a5 a6 a7 a8 a9 _ _ hPL.out).mono ?_); rintro e w3 ⟨rfl, hb3⟩; have HB3 := Lib.hid (HB.out.trans (hb3.mono hsz)); have HC3 := Lib.hid (Kd.C_below HC5.out hb3); clear hb3)
        clear b0 b1 b2 b3 b4 b5 b6 b7 b8 b9 HC5 HB HBw hsz
        go_loopw [5, 44] (fun v5 v44 wr => ∃ (i : Nat) (A : Option Addr) (c : Nat) (rest : List Int), i ≤ ls.length ∧ v44 = .int .i64 i ∧ v5 = .slice A rest.length c ∧ Hid (rest = flat false (ls.drop i)) ∧ rest.length ≤ c ∧ Hid (Kd.C (Kd.int .u8) wr A rest.length rest) ∧ Hid (Below (w.heap.size + 1) wA wr)) (fun _ v44 _ => ls.length - (intOf v44).toNat)
        case atStart => exact ⟨0, A, c, _, Nat.zero_le _, rfl, rfl, Lib.hid HF0.out.symm, hc5, HC3, HB3⟩
        case round =>
          clear HC3 HB3
          obtain ⟨i, A, c, rest, hi, rfl, rfl, HE, hcr, HC, HB⟩ := hrel
          have HBw := Lib.hid (HA0.out.trans (HB.out.mono (by omega)))
          have hsz : w.heap.size + 1 ≤ wr.heap.size := by have := HB.out.size; have := HAs.out; omega
          by_cases hlt : i < ls.length
          · obtain ⟨ad, Ad, cd, e1, x0, hcd, hCd⟩ := hAt.out _ HBw.out i hlt
            subst e1
            have HCd := Lib.hid hCd
            have HE2 := Lib.hid (HE.out.trans (flat_drop false ls i hlt))
            have HY := Lib.hid (HBy.out i hlt)
            have hd1 : (ls.getD i []).length ≤ 1000 := HS.out _ (by rw [List.getD_eq_getElem?_getD, List.getElem?_eq_getElem hlt]; exact List.getElem_mem _)
            have hrl : rest.length ≤ 20000 := by
              have h1 := flat_length false (ls.drop i) (fun d hd => HS.out d (List.mem_of_mem_drop hd))
              rw [← HE.out] at h1
              have : (ls.drop i).length ≤ 12 := by rw [List.length_drop]; omega
              omega
            have HRb : Hid (Byt rest) := Lib.hid (by rw [HE.out]; exact flat_byt _ _ fun d hd => ⟨by
              obtain ⟨j, hj, rfl⟩ := List.getElem_of_mem (List.mem_of_mem_drop hd)
              have := HBy.out j hj
              rw [List.getD_eq_getElem?_getD, List.getElem?_eq_getElem hj] at this
              exact this, HS.out d (List.mem_of_mem_drop hd)⟩)
            clear hCd
            generalize ls.getD i [] = d at *
            have hlen : rest.length = d.length + 10 + (flat false (ls.drop (i + 1))).length := by rw [HE2.out, List.length_append, pkt_length]
            have hpg : Hid (spec_PacketGet.f 5 rest 0 2 = some ((d.length : Int) + 10)) := Lib.hid (by
              have := pkt_size false d (flat false (ls.drop (i + 1))) hd1 (by rw [← HE2.out]; exact HRb.out) (by rw [← HE2.out]; omega)
              rw [← HE2.out] at this
              exact this)
            have HTk : Hid (rest.take (d.length + 10) = pkt false d) := Lib.hid (by rw [HE2.out, ← pkt_length false d, List.take_left])
            have HDr : Hid (rest.drop (d.length + 10) = flat false (ls.drop (i + 1))) := Lib.hid (by rw [HE2.out, ← pkt_length false d, List.drop_left])
            have hn10 : 10 ≤ rest.length := by omega
            have s1 : (0 : Int) ≤ (d.length : Int) + 10 := by omega
            have s2 : (d.length : Int) + 10 ≤ (c : Int) := by omega
            have hfit : d.length + 10 ≤ rest.length := by omega
            have HLn := Lib.hid hlen
            clear hlen
            obtain ⟨b0, b1, b2, b3, b4, b5, b6, b7, b8, b9⟩ := ctx_cells (blk_bl HAb.out HB.out (by omega))
            obtain ⟨xr, yr, hdr⟩ := pkt_read a0 a1 a2 a3 a4 a5 a6 a7 a8 a9 false d HY.out hd1
            have HDR := Lib.hid hdr
            have HCl : Hid (∀ W, Below wr.heap.size wr W → Calls Tryd.prog 12 #[.slice A ((d.length : Int) + 10).toNat c] W fun e w' => ∃ v0_ : Value, e = .returned (v0_) ∧ Kd.R (Kd.int .u8) 5 w' W.heap.size (fun _ => True) v0_ (pkt false d) ∧ Below W.heap.size W w') := Lib.hid (fun W hW => by
              have hC' := xC_take (Kd.C_below HC.out hW) (d.length + 10) hfit
              rw [HTk.out] at hC'
              have := bytes_Clone.calls A c (pkt false d) (pkt false d) W hC' (by rw [pkt_length]; omega) (by unfold bytes_Clone.f; rw [if_pos (by rw [pkt_length]; omega)])
              rw [pkt_length] at this
              rw [show ((d.length : Int) + 10).toNat = d.length + 10 by omega]
              exact this)
            clear hdr
            obtain ⟨i5, hi5, hz5', hz5'', _⟩ := info_parts info5x
            obtain ⟨A8, hcut, hA8⟩ := print_cut (P := Tryd.prog) 24 5 .i64 Tryd.underlying24 hi5 hz5'' A rest.length c (d.length + 10) hfit
            rw [show ((d.length + 10 : Nat) : Int) = (d.length : Int) + 10 by omega] at hcut
            have HA8 := Lib.hid hA8
            clear hA8 hi5 hz5' hz5''
            go_wp2_with (go_at_call 14; (with_reducible refine (spec_PacketGet.calls 5 A c rest 0 2 _ _ HC.out hcr hpg.out).mono ?_); rintro e w4 ⟨rfl, n4, rfl⟩)
            go_region_held3 (fun w' => w'.cell? ⟨w.heap.size, 0, none⟩ = some (Value.int .u16 a0) ∧ w'.cell? ⟨w.heap.size, 1, none⟩ = some (Value.int .u16 a1) ∧ w'.cell? ⟨w.heap.size, 2, none⟩ = some (Value.int .u16 a2) ∧ w'.cell? ⟨w.heap.size, 3, none⟩ = some (Value.int .u16 a3) ∧ w'.cell? ⟨w.heap.size, 4, none⟩ = some (Value.int .u16 a4) ∧ w'.cell? ⟨w.heap.size, 5, none⟩ = some (Value.int .u8 a5) ∧ w'.cell? ⟨w.heap.size, 6, none⟩ = some (Value.int .u8 a6) ∧ w'.cell? ⟨w.heap.size, 7, none⟩ = some (Value.int .u32 a7) ∧ w'.cell? ⟨w.heap.size, 8, none⟩ = some (Value.int .u32 a8) ∧ w'.cell? ⟨w.heap.size, 9, none⟩ = some (Value.bool a9)) (first | (refine ⟨?_, ?_, ?_, ?_, ?_, ?_, ?_, ?_, ?_, ?_⟩ <;> (first | with_reducible assumption | (with_reducible refine cell_alloc _ ?_; with_reducible assumption) | (rw [set_far hne, set_far hne, set_far hne, set_far hne]; with_reducible assumption))) | exact ⟨b0, b1, b2, b3, b4, b5, b6, b7, b8, b9⟩ | go_keep) (first | (go_at_call 12; (with_reducible refine (HCl.out (wr.drewN (n4 + 1)) (bl_drewN wr (n4 + 1))).mono ?_); rintro e w5 ⟨v5, rfl, hR5, hb5⟩; have HB5 := Lib.hid (bl_trans (bl_drewN wr (n4 + 1)) hb5); obtain ⟨A5, c5, rfl, hc5, hC5⟩ := Kd.R_reads hR5; have HC5 := Lib.hid hC5; obtain ⟨e0, e1, e2, e3, e4, e5, e6, e7, e8, e9⟩ := ctx_cells (blk_bl HAb.out (HB.out.trans (HB5.out.mono hsz)) (by omega)); clear hR5 hb5 hC5) | (go_at_call 12; (with_reducible refine (HCl.out ((wr.alloc (.cells #[.int .u32 0, .int .u8 0, .int .u8 0, .int .u16 0] 28)).drewN (n4 + 1)) (bl_trans ((Below.refl _ _).alloc (Nat.le_refl _) (.cells #[.int .u32 0, .int .u8 0, .int .u8 0, .int .u16 0] 28)) (bl_drewN _ (n4 + 1)))).mono ?_); rintro e w5 ⟨v5, rfl, hR5, hb5⟩; have HZ5 := Lib.hid (blk_bl (b := wr.heap.size) (o := (.cells #[.int .u32 0, .int .u8 0, .int .u8 0, .int .u16 0] 28)) (xb_new wr (.cells #[.int .u32 0, .int .u8 0, .int .u8 0, .int .u16 0] 28)) (bl_trans (bl_drewN _ (n4 + 1)) hb5) (by rw [World.size_alloc]; omega)); have HB5 := Lib.hid (bl_trans (bl_trans ((Below.refl _ _).alloc (Nat.le_refl _) (.cells #[.int .u32 0, .int .u8 0, .int .u8 0, .int .u16 0] 28)) (bl_drewN _ (n4 + 1))) hb5); obtain ⟨A5, c5, rfl, hc5, hC5⟩ := Kd.R_reads hR5; have HC5 := Lib.hid hC5; obtain ⟨e0, e1, e2, e3, e4, e5, e6, e7, e8, e9⟩ := ctx_cells (blk_bl HAb.out (HB.out.trans (HB5.out.mono hsz)) (by omega)); clear hR5 hb5 hC5) | (go_at_call 13; (with_reducible refine (impl_DataRead.calls a0 a1 a2 a3 a4 a5 a6 a7 a8 a9 A5 c5 (pkt false d) xr 6 yr 10 0 d true (w5.alloc (.cells #[.int .u32 0, .int .u8 0, .int .u8 0, .int .u16 0] 28)) (Kd.C_below HC5.out ((Below.refl _ _).alloc (Nat.le_refl _) (.cells #[.int .u32 0, .int .u8 0, .int .u8 0, .int .u16 0] 28))) hc5 HDR.out).mono ?_); rintro e w6 ⟨v6, rfl, hR6, hb6⟩; have HB6 := Lib.hid (bl_trans (bl_trans HB5.out ((Below.refl _ _).alloc (Nat.le_refl _) (.cells #[.int .u32 0, .int .u8 0, .int .u8 0, .int .u16 0] 28))) hb6); have hz6 := blk_bl (xb_new w5 (.cells #[.int .u32 0, .int .u8 0, .int .u8 0, .int .u16 0] 28)) hb6 (by rw [World.size_alloc]; omega); have hne : ¬ w.heap.size = w5.heap.size := (by have := HB5.out.size; omega); have z0 : w6.cell? ⟨w5.heap.size, 0, none⟩ = some (Value.int .u32 0) := xb_cell hz6 0; have z1 : w6.cell? ⟨w5.heap.size, 1, none⟩ = some (Value.int .u8 0) := xb_cell hz6 1; have z2 : w6.cell? ⟨w5.heap.size, 2, none⟩ = some (Value.int .u8 0) := xb_cell hz6 2; have z3 : w6.cell? ⟨w5.heap.size, 3, none⟩ = some (Value.int .u16 0) := xb_cell hz6 3; have y0 : w6.frozen? ⟨w5.heap.size, 0, none⟩ = false := blk_free hz6 0; have y1 : w6.frozen? ⟨w5.heap.size, 1, none⟩ = false := blk_free hz6 1; have y2 : w6.frozen? ⟨w5.heap.size, 2, none⟩ = false := blk_free hz6 2; have y3 : w6.frozen? ⟨w5.heap.size, 3, none⟩ = false := blk_free hz6 3;  clear hz6; obtain ⟨A6, c6, rfl, hc6, hC6⟩ := Kd.R_reads hR6; have HC6 := Lib.hid hC6; have HR7 := Lib.hid (Kd.R_mono (ok' := fun k => k ≠ w5.heap.size) (Kd.R_bound hR6) (fun k hk e => by have h1 := hk.2.1; rw [World.size_alloc] at h1; omega)); have hbp : wr.heap.size ≤ w5.heap.size := HB5.out.size; obtain ⟨f0, f1, f2, f3, f4, f5, f6, f7, f8, f9⟩ := ctx_cells (blk_bl HAb.out (HB.out.trans (HB6.out.mono hsz)) (by omega)); clear hR6 hb6 hC6) | (go_at_call 13; (with_reducible refine (impl_DataRead.calls a0 a1 a2 a3 a4 a5 a6 a7 a8 a9 A5 c5 (pkt false d) xr 6 yr 10 0 d true w5 HC5.out hc5 HDR.out).mono ?_); rintro e w6 ⟨v6, rfl, hR6, hb6⟩; have HB6 := Lib.hid (bl_trans HB5.out hb6); have hz6 := blk_bl HZ5.out hb6 (xb_lt HZ5.out); have hne : ¬ w.heap.size = wr.heap.size := (by have := HB5.out.size; omega); have z0 : w6.cell? ⟨wr.heap.size, 0, none⟩ = some (Value.int .u32 0) := xb_cell hz6 0; have z1 : w6.cell? ⟨wr.heap.size, 1, none⟩ = some (Value.int .u8 0) := xb_cell hz6 1; have z2 : w6.cell? ⟨wr.heap.size, 2, none⟩ = some (Value.int .u8 0) := xb_cell hz6 2; have z3 : w6.cell? ⟨wr.heap.size, 3, none⟩ = some (Value.int .u16 0) := xb_cell hz6 3; have y0 : w6.frozen? ⟨wr.heap.size, 0, none⟩ = false := blk_free hz6 0; have y1 : w6.frozen? ⟨wr.heap.size, 1, none⟩ = false := blk_free hz6 1; have y2 : w6.frozen? ⟨wr.heap.size, 2, none⟩ = false := blk_free hz6 2; have y3 : w6.frozen? ⟨wr.heap.size, 3, none⟩ = false := blk_free hz6 3;  clear hz6; obtain ⟨A6, c6, rfl, hc6, hC6⟩ := Kd.R_reads hR6; have HC6 := Lib.hid hC6; have HR7 := Lib.hid (Kd.R_mono (ok' := fun k => k ≠ wr.heap.size) (Kd.R_bound hR6) (fun k hk e => by have h1 := hk.2.1; have h2 := xb_lt HZ5.out; omega)); have hbp : wr.heap.size ≤ wr.heap.size := Nat.le_refl _; obtain ⟨f0, f1, f2, f3, f4, f5, f6, f7, f8, f9⟩ := ctx_cells (blk_bl HAb.out (HB.out.trans (HB6.out.mono hsz)) (by omega)); clear hR6 hb6 hC6) | (go_at_call 13; (with_reducible refine (impl_DataRead.calls a0 a1 a2 a3 a4 a5 a6 a7 a8 a9 A5 c5 (pkt false d) xr 6 yr 10 0 d true w5 HC5.out hc5 HDR.out).mono ?_); rintro e w6 ⟨v6, rfl, hR6, hb6⟩; have HB6 := Lib.hid (bl_trans HB5.out hb6);  obtain ⟨A6, c6, rfl, hc6, hC6⟩ := Kd.R_reads hR6; have HC6 := Lib.hid hC6;  obtain ⟨f0, f1, f2, f3, f4, f5, f6, f7, f8, f9⟩ := ctx_cells (blk_bl HAb.out (HB.out.trans (HB6.out.mono hsz)) (by omega)); clear hR6 hb6 hC6))
            all_goals
              go_simp
              go_wp2_with (first | (go_at_call 15; refine (bytes_Equal.calls A6 c6 d Ad cd d true _ (Kd.R_reads' (Kd.R_grown HR7.out (grown_set (grown_set (grown_set (grown_set (grown_refl _ _))))) (fun k hk e => hk (by injection e)))).2.2 hc6 (Kd.C_below HCd.out ((((HB6.out.setCell hbp _).setCell hbp _).setCell hbp _).setCell hbp _)) hcd (by unfold bytes_Equal.f; simp)).mono ?_; rintro e w7 ⟨rfl, hd7⟩; obtain ⟨n7, hw7⟩ := hd7; have HB7 : Hid (Below wr.heap.size wr w7) := Lib.hid (by rw [hw7]; exact bl_trans ((((HB6.out.setCell hbp _).setCell hbp _).setCell hbp _).setCell hbp _) (bl_drewN _ n7)); clear hw7) | (go_at_call 15; refine (bytes_Equal.calls A6 c6 d Ad cd d true _ (Kd.C_below HC6.out ((Below.refl _ _).alloc (Nat.le_refl _) _)) hc6 (Kd.C_below HCd.out (bl_trans HB6.out ((Below.refl _ _).alloc (Nat.le_refl _) _))) hcd (by unfold bytes_Equal.f; simp)).mono ?_; rintro e w7 ⟨rfl, hd7⟩; obtain ⟨n7, hw7⟩ := hd7; have HB7 : Hid (Below wr.heap.size wr w7) := Lib.hid (by rw [hw7]; exact bl_trans (bl_trans HB6.out ((Below.refl _ _).alloc (Nat.le_refl _) _)) (bl_drewN _ n7)); clear hw7))
              go_roundw
              case rel => exact ⟨i + 1, A8, c - (d.length + 10), rest.drop (d.length + 10), by omega, by go_num, by rw [List.length_drop], Lib.hid HDr.out, by rw [List.length_drop]; omega, Lib.hid (by
                have := HA8.out w7 .u8 rest hcr (Kd.reads_of_C (enc := Value.int .u8) (d := (0 : Int)) (h1 := fun _ => rfl) (Kd.C_below HC.out HB7.out))
                rw [← List.length_drop] at this
                exact Kd.C_of_reads (d := (0 : Int)) (h1 := fun _ => rfl) this), Lib.hid (HB.out.trans (HB7.out.mono hsz))⟩
              case measure => simp [intOf]; omega
          · obtain rfl : i = ls.length := by omega
            have hr0 : rest.length = 0 := by rw [HE.out, List.drop_length]; rfl
            have q0 : ((rest.length : Int) == 0) = true := beq_iff_eq.2 (by omega)
            go_wp2_with (go_at_call 9; (with_reducible refine (laws_packetAwake.calls true _ rfl).mono ?_); rintro e w4 ⟨rfl, hb4⟩)
            go_ret
            exact ⟨rfl, bl_trans HBw.out hb4⟩
      · go_wp2_with (go_at_call 17; (with_reducible refine (ZS.spec_PacketLong.calls a0 a1 a2 a3 a4 a5 a6 a7 a8 a9 _ _ hPL.out).mono ?_); rintro e w3 ⟨rfl, hb3⟩; have HB3 := Lib.hid (HB.out.trans (hb3.mono hsz)); have HC3 := Lib.hid (Kd.C_below HC5.out hb3); clear hb3)
        clear b0 b1 b2 b3 b4 b5 b6 b7 b8 b9 HC5 HB HBw hsz
        go_loopw [5, 44] (fun v5 v44 wr => ∃ (i : Nat) (A : Option Addr) (c : Nat) (rest : List Int), i ≤ ls.length ∧ v44 = .int .i64 i ∧ v5 = .slice A rest.length c ∧ Hid (rest = flat true (ls.drop i)) ∧ rest.length ≤ c ∧ Hid (Kd.C (Kd.int .u8) wr A rest.length rest) ∧ Hid (Below (w.heap.size + 1) wA wr)) (fun _ v44 _ => ls.length - (intOf v44).toNat)
        case atStart => exact ⟨0, A, c, _, Nat.zero_le _, rfl, rfl, Lib.hid HF0.out.symm, hc5, HC3, HB3⟩
        case round =>
          clear HC3 HB3
          obtain ⟨i, A, c, rest, hi, rfl, rfl, HE, hcr, HC, HB⟩ := hrel
          have HBw := Lib.hid (HA0.out.trans (HB.out.mono (by omega)))
          have hsz : w.heap.size + 1 ≤ wr.heap.size := by have := HB.out.size; have := HAs.out; omega
          by_cases hlt : i < ls.length
          · obtain ⟨ad, Ad, cd, e1, x0, hcd, hCd⟩ := hAt.out _ HBw.out i hlt
            subst e1
            have HCd := Lib.hid hCd
            have HE2 := Lib.hid (HE.out.trans (flat_drop true ls i hlt))
            have HY := Lib.hid (HBy.out i hlt)
            have hd1 : (ls.getD i []).length ≤ 1000 := HS.out _ (by rw [List.getD_eq_getElem?_getD, List.getElem?_eq_getElem hlt]; exact List.getElem_mem _)
            have hrl : rest.length ≤ 20000 := by
              have h1 := flat_length true (ls.drop i) (fun d hd => HS.out d (List.mem_of_mem_drop hd))
              rw [← HE.out] at h1
              have : (ls.drop i).length ≤ 12 := by rw [List.length_drop]; omega
              omega
            have HRb : Hid (Byt rest) := Lib.hid (by rw [HE.out]; exact flat_byt _ _ fun d hd => ⟨by
              obtain ⟨j, hj, rfl⟩ := List.getElem_of_mem (List.mem_of_mem_drop hd)
              have := HBy.out j hj
              rw [List.getD_eq_getElem?_getD, List.getElem?_eq_getElem hj] at this
              exact this, HS.out d (List.mem_of_mem_drop hd)⟩)
            clear hCd
            generalize ls.getD i [] = d at *
            have hlen : rest.length = d.length + 10 + (flat true (ls.drop (i + 1))).length := by rw [HE2.out, List.length_append, pkt_length]
            have hpg : Hid (spec_PacketGet.f 5 rest 0 4 = some ((d.length : Int) + 10)) := Lib.hid (by
              have := pkt_size true d (flat true (ls.drop (i + 1))) hd1 (by rw [← HE2.out]; exact HRb.out) (by rw [← HE2.out]; omega)
              rw [← HE2.out] at this
              exact this)
            have HTk : Hid (rest.take (d.length + 10) = pkt true d) := Lib.hid (by rw [HE2.out, ← pkt_length true d, List.take_left])
            have HDr : Hid (rest.drop (d.length + 10) = flat true (ls.drop (i + 1))) := Lib.hid (by rw [HE2.out, ← pkt_length true d, List.drop_left])
            have hn10 : 10 ≤ rest.length := by omega
            have s1 : (0 : Int) ≤ (d.length : Int) + 10 := by omega
            have s2 : (d.length : Int) + 10 ≤ (c : Int) := by omega
            have hfit : d.length + 10 ≤ rest.length := by omega
            have HLn := Lib.hid hlen
            clear hlen
            obtain ⟨b0, b1, b2, b3, b4, b5, b6, b7, b8, b9⟩ := ctx_cells (blk_bl HAb.out HB.out (by omega))
            obtain ⟨xr, yr, hdr⟩ := pkt_read a0 a1 a2 a3 a4 a5 a6 a7 a8 a9 true d HY.out hd1
            have HDR := Lib.hid hdr
            have HCl : Hid (∀ W, Below wr.heap.size wr W → Calls Tryd.prog 12 #[.slice A ((d.length : Int) + 10).toNat c] W fun e w' => ∃ v0_ : Value, e = .returned (v0_) ∧ Kd.R (Kd.int .u8) 5 w' W.heap.size (fun _ => True) v0_ (pkt true d) ∧ Below W.heap.size W w') := Lib.hid (fun W hW => by
              have hC' := xC_take (Kd.C_below HC.out hW) (d.length + 10) hfit
              rw [HTk.out] at hC'
              have := bytes_Clone.calls A c (pkt true d) (pkt true d) W hC' (by rw [pkt_length]; omega) (by unfold bytes_Clone.f; rw [if_pos (by rw [pkt_length]; omega)])
              rw [pkt_length] at this
              rw [show ((d.length : Int) + 10).toNat = d.length + 10 by omega]
              exact this)
            clear hdr
            obtain ⟨i5, hi5, hz5', hz5'', _⟩ := info_parts info5x
            obtain ⟨A8, hcut, hA8⟩ := print_cut (P := Tryd.prog) 24 5 .i64 Tryd.underlying24 hi5 hz5'' A rest.length c (d.length + 10) hfit
            rw [show ((d.length + 10 : Nat) : Int) = (d.length : Int) + 10 by omega] at hcut
            have HA8 := Lib.hid hA8
            clear hA8 hi5 hz5' hz5''
            go_wp2_with (go_at_call 14; (with_reducible refine (spec_PacketGet.calls 5 A c rest 0 4 _ _ HC.out hcr hpg.out).mono ?_); rintro e w4 ⟨rfl, n4, rfl⟩)
            go_region_held3 (fun w' => w'.cell? ⟨w.heap.size, 0, none⟩ = some (Value.int .u16 a0) ∧ w'.cell? ⟨w.heap.size, 1, none⟩ = some (Value.int .u16 a1) ∧ w'.cell? ⟨w.heap.size, 2, none⟩ = some (Value.int .u16 a2) ∧ w'.cell? ⟨w.heap.size, 3, none⟩ = some (Value.int .u16 a3) ∧ w'.cell? ⟨w.heap.size, 4, none⟩ = some (Value.int .u16 a4) ∧ w'.cell? ⟨w.heap.size, 5, none⟩ = some (Value.int .u8 a5) ∧ w'.cell? ⟨w.heap.size, 6, none⟩ = some (Value.int .u8 a6) ∧ w'.cell? ⟨w.heap.size, 7, none⟩ = some (Value.int .u32 a7) ∧ w'.cell? ⟨w.heap.size, 8, none⟩ = some (Value.int .u32 a8) ∧ w'.cell? ⟨w.heap.size, 9, none⟩ = some (Value.bool a9)) (first | (refine ⟨?_, ?_, ?_, ?_, ?_, ?_, ?_, ?_, ?_, ?_⟩ <;> (first | with_reducible assumption | (with_reducible refine cell_alloc _ ?_; with_reducible assumption) | (rw [set_far hne, set_far hne, set_far hne, set_far hne]; with_reducible assumption))) | exact ⟨b0, b1, b2, b3, b4, b5, b6, b7, b8, b9⟩ | go_keep) (first | (go_at_call 12; (with_reducible refine (HCl.out (wr.drewN (n4 + 1)) (bl_drewN wr (n4 + 1))).mono ?_); rintro e w5 ⟨v5, rfl, hR5, hb5⟩; have HB5 := Lib.hid (bl_trans (bl_drewN wr (n4 + 1)) hb5); obtain ⟨A5, c5, rfl, hc5, hC5⟩ := Kd.R_reads hR5; have HC5 := Lib.hid hC5; obtain ⟨e0, e1, e2, e3, e4, e5, e6, e7, e8, e9⟩ := ctx_cells (blk_bl HAb.out (HB.out.trans (HB5.out.mono hsz)) (by omega)); clear hR5 hb5 hC5) | (go_at_call 12; (with_reducible refine (HCl.out ((wr.alloc (.cells #[.int .u32 0, .int .u8 0, .int .u8 0, .int .u16 0] 28)).drewN (n4 + 1)) (bl_trans ((Below.refl _ _).alloc (Nat.le_refl _) (.cells #[.int .u32 0, .int .u8 0, .int .u8 0, .int .u16 0] 28)) (bl_drewN _ (n4 + 1)))).mono ?_); rintro e w5 ⟨v5, rfl, hR5, hb5⟩; have HZ5 := Lib.hid (blk_bl (b := wr.heap.size) (o := (.cells #[.int .u32 0, .int .u8 0, .int .u8 0, .int .u16 0] 28)) (xb_new wr (.cells #[.int .u32 0, .int .u8 0, .int .u8 0, .int .u16 0] 28)) (bl_trans (bl_drewN _ (n4 + 1)) hb5) (by rw [World.size_alloc]; omega)); have HB5 := Lib.hid (bl_trans (bl_trans ((Below.refl _ _).alloc (Nat.le_refl _) (.cells #[.int .u32 0, .int .u8 0, .int .u8 0, .int .u16 0] 28)) (bl_drewN _ (n4 + 1))) hb5); obtain ⟨A5, c5, rfl, hc5, hC5⟩ := Kd.R_reads hR5; have HC5 := Lib.hid hC5; obtain ⟨e0, e1, e2, e3, e4, e5, e6, e7, e8, e9⟩ := ctx_cells (blk_bl HAb.out (HB.out.trans (HB5.out.mono hsz)) (by omega)); clear hR5 hb5 hC5) | (go_at_call 13; (with_reducible refine (impl_DataRead.calls a0 a1 a2 a3 a4 a5 a6 a7 a8 a9 A5 c5 (pkt true d) xr 6 yr 10 0 d true (w5.alloc (.cells #[.int .u32 0, .int .u8 0, .int .u8 0, .int .u16 0] 28)) (Kd.C_below HC5.out ((Below.refl _ _).alloc (Nat.le_refl _) (.cells #[.int .u32 0, .int .u8 0, .int .u8 0, .int .u16 0] 28))) hc5 HDR.out).mono ?_); rintro e w6 ⟨v6, rfl, hR6, hb6⟩; have HB6 := Lib.hid (bl_trans (bl_trans HB5.out ((Below.refl _ _).alloc (Nat.le_refl _) (.cells #[.int .u32 0, .int .u8 0, .int .u8 0, .int .u16 0] 28))) hb6); have hz6 := blk_bl (xb_new w5 (.cells #[.int .u32 0, .int .u8 0, .int .u8 0, .int .u16 0] 28)) hb6 (by rw [World.size_alloc]; omega); have hne : ¬ w.heap.size = w5.heap.size := (by have := HB5.out.size; omega); have z0 : w6.cell? ⟨w5.heap.size, 0, none⟩ = some (Value.int .u32 0) := xb_cell hz6 0; have z1 : w6.cell? ⟨w5.heap.size, 1, none⟩ = some (Value.int .u8 0) := xb_cell hz6 1; have z2 : w6.cell? ⟨w5.heap.size, 2, none⟩ = some (Value.int .u8 0) := xb_cell hz6 2; have z3 : w6.cell? ⟨w5.heap.size, 3, none⟩ = some (Value.int .u16 0) := xb_cell hz6 3; have y0 : w6.frozen? ⟨w5.heap.size, 0, none⟩ = false := blk_free hz6 0; have y1 : w6.frozen? ⟨w5.heap.size, 1, none⟩ = false := blk_free hz6 1; have y2 : w6.frozen? ⟨w5.heap.size, 2, none⟩ = false := blk_free hz6 2; have y3 : w6.frozen? ⟨w5.heap.size, 3, none⟩ = false := blk_free hz6 3;  clear hz6; obtain ⟨A6, c6, rfl, hc6, hC6⟩ := Kd.R_reads hR6; have HC6 := Lib.hid hC6; have HR7 := Lib.hid (Kd.R_mono (ok' := fun k => k ≠ w5.heap.size) (Kd.R_bound hR6) (fun k hk e => by have h1 := hk.2.1; rw [World.size_alloc] at h1; omega)); have hbp : wr.heap.size ≤ w5.heap.size := HB5.out.size; obtain ⟨f0, f1, f2, f3, f4, f5, f6, f7, f8, f9⟩ := ctx_cells (blk_bl HAb.out (HB.out.trans (HB6.out.mono hsz)) (by omega)); clear hR6 hb6 hC6) | (go_at_call 13; (with_reducible refine (impl_DataRead.calls a0 a1 a2 a3 a4 a5 a6 a7 a8 a9 A5 c5 (pkt true d) xr 6 yr 10 0 d true w5 HC5.out hc5 HDR.out).mono ?_); rintro e w6 ⟨v6, rfl, hR6, hb6⟩; have HB6 := Lib.hid (bl_trans HB5.out hb6); have hz6 := blk_bl HZ5.out hb6 (xb_lt HZ5.out); have hne : ¬ w.heap.size = wr.heap.size := (by have := HB5.out.size; omega); have z0 : w6.cell? ⟨wr.heap.size, 0, none⟩ = some (Value.int .u32 0) := xb_cell hz6 0; have z1 : w6.cell? ⟨wr.heap.size, 1, none⟩ = some (Value.int .u8 0) := xb_cell hz6 1; have z2 : w6.cell? ⟨wr.heap.size, 2, none⟩ = some (Value.int .u8 0) := xb_cell hz6 2; have z3 : w6.cell? ⟨wr.heap.size, 3, none⟩ = some (Value.int .u16 0) := xb_cell hz6 3; have y0 : w6.frozen? ⟨wr.heap.size, 0, none⟩ = false := blk_free hz6 0; have y1 : w6.frozen? ⟨wr.heap.size, 1, none⟩ = false := blk_free hz6 1; have y2 : w6.frozen? ⟨wr.heap.size, 2, none⟩ = false := blk_free hz6 2; have y3 : w6.frozen? ⟨wr.heap.size, 3, none⟩ = false := blk_free hz6 3;  clear hz6; obtain ⟨A6, c6, rfl, hc6, hC6⟩ := Kd.R_reads hR6; have HC6 := Lib.hid hC6; have HR7 := Lib.hid (Kd.R_mono (ok' := fun k => k ≠ wr.heap.size) (Kd.R_bound hR6) (fun k hk e => by have h1 := hk.2.1; have h2 := xb_lt HZ5.out; omega)); have hbp : wr.heap.size ≤ wr.heap.size := Nat.le_refl _; obtain ⟨f0, f1, f2, f3, f4, f5, f6, f7, f8, f9⟩ := ctx_cells (blk_bl HAb.out (HB.out.trans (HB6.out.mono hsz)) (by omega)); clear hR6 hb6 hC6) | (go_at_call 13; (with_reducible refine (impl_DataRead.calls a0 a1 a2 a3 a4 a5 a6 a7 a8 a9 A5 c5 (pkt true d) xr 6 yr 10 0 d true w5 HC5.out hc5 HDR.out).mono ?_); rintro e w6 ⟨v6, rfl, hR6, hb6⟩; have HB6 := Lib.hid (bl_trans HB5.out hb6);  obtain ⟨A6, c6, rfl, hc6, hC6⟩ := Kd.R_reads hR6; have HC6 := Lib.hid hC6;  obtain ⟨f0, f1, f2, f3, f4, f5, f6, f7, f8, f9⟩ := ctx_cells (blk_bl HAb.out (HB.out.trans (HB6.out.mono hsz)) (by omega)); clear hR6 hb6 hC6))
            all_goals
              go_simp
              go_wp2_with (first | (go_at_call 15; refine (bytes_Equal.calls A6 c6 d Ad cd d true _ (Kd.R_reads' (Kd.R_grown HR7.out (grown_set (grown_set (grown_set (grown_set (grown_refl _ _))))) (fun k hk e => hk (by injection e)))).2.2 hc6 (Kd.C_below HCd.out ((((HB6.out.setCell hbp _).setCell hbp _).setCell hbp _).setCell hbp _)) hcd (by unfold bytes_Equal.f; simp)).mono ?_; rintro e w7 ⟨rfl, hd7⟩; obtain ⟨n7, hw7⟩ := hd7; have HB7 : Hid (Below wr.heap.size wr w7) := Lib.hid (by rw [hw7]; exact bl_trans ((((HB6.out.setCell hbp _).setCell hbp _).setCell hbp _).setCell hbp _) (bl_drewN _ n7)); clear hw7) | (go_at_call 15; refine (bytes_Equal.calls A6 c6 d Ad cd d true _ (Kd.C_below HC6.out ((Below.refl _ _).alloc (Nat.le_refl _) _)) hc6 (Kd.C_below HCd.out (bl_trans HB6.out ((Below.refl _ _).alloc (Nat.le_refl _) _))) hcd (by unfold bytes_Equal.f; simp)).mono ?_; rintro e w7 ⟨rfl, hd7⟩; obtain ⟨n7, hw7⟩ := hd7; have HB7 : Hid (Below wr.heap.size wr w7) := Lib.hid (by rw [hw7]; exact bl_trans (bl_trans HB6.out ((Below.refl _ _).alloc (Nat.le_refl _) _)) (bl_drewN _ n7)); clear hw7))
              go_roundw
              case rel => exact ⟨i + 1, A8, c - (d.length + 10), rest.drop (d.length + 10), by omega, by go_num, by rw [List.length_drop], Lib.hid HDr.out, by rw [List.length_drop]; omega, Lib.hid (by
                have := HA8.out w7 .u8 rest hcr (Kd.reads_of_C (enc := Value.int .u8) (d := (0 : Int)) (h1 := fun _ => rfl) (Kd.C_below HC.out HB7.out))
                rw [← List.length_drop] at this
                exact Kd.C_of_reads (d := (0 : Int)) (h1 := fun _ => rfl) this), Lib.hid (HB.out.trans (HB7.out.mono hsz))⟩
              case measure => simp [intOf]; omega
          · obtain rfl : i = ls.length := by omega
            have hr0 : rest.length = 0 := by rw [HE.out, List.drop_length]; rfl
            have q0 : ((rest.length : Int) == 0) = true := beq_iff_eq.2 (by omega)
            go_wp2_with (go_at_call 9; (with_reducible refine (laws_packetAwake.calls true _ rfl).mono ?_); rintro e w4 ⟨rfl, hb4⟩)
            go_ret
            exact ⟨rfl, bl_trans HBw.out hb4⟩
end Go.Proofs.YtpacjdlgnoiheaaDoor.X
