/- impl.SessionGet of steps whose last one fails. -/
import Derived.Test.YtdnahdddkagfhaaDoorSa
namespace Go.Proofs.YtdnahdddkagfhaaDoor.X
open Go.RowKit Go.Proofs.YtdnahdddkagfhaaDoorW.PrintWords Go.Proofs.YtdnahdddkagfhaaDoorW.PrintMore
attribute [local go_sem] setCell_drewN alloc_drewN
set_option linter.unusedVariables false
set_option linter.unusedSimpArgs false
set_option maxHeartbeats 16000000 in
set_option maxRecDepth 100000 in
theorem sessionGet_torn (ss : List Ses.GS) (outs : List Ses.Gt) (ix : Nat → Nat) (l : List Int) (big : Bool) (hlm : l.length ≤ 1000000) (hix0 : ix 0 = 0) (hns : ss.length ≤ 100) (hgo : Ses.Goes ss outs) (hla : ∃ o, outs[outs.length - 1]? = some o ∧ 0 < outs.length ∧ o.ok = false)
    (w : World) (HGot : ∀ j s o, ss[j]? = some s → outs[j]? = some o → ∀ (W : World) (b g c : Nat), Ses.RS W b g c l (ix j) big 64 → Below w.heap.size w W → Calls Tryd.prog 48 #[.pointer (some ⟨b, 0, none⟩), .agg #[.int .i64 s.kind, .int .i64 s.size, .bool s.sb, .bool s.sc]] W fun e w' => ∃ i, i ≤ l.length ∧ (o.ok = true → i = ix (j + 1)) ∧ Ses.GotQ b g c l i big 64 o W e w')
    (a : Addr) (cI : Nat) (A2 : Option Addr) (c2 : Nat) (hin : Kd.C (Kd.int .u8) w (some a) l.length l) (hS : Ses.gsKd.C w A2 ss.length ss) (hle2 : ss.length ≤ c2) :
    Calls Tryd.prog 18 #[.slice (some a) l.length cI, .slice A2 ss.length c2, .bool big] w fun e w' => ∃ v v2, e = .returned (.tuple #[v, v2]) ∧ Ses.gtKd.R 38 w' w.heap.size (fun _ => True) v outs ∧ Below w.heap.size w w' := by
  have HCl := Lib.hid (Tryd.bytes_Clone_at a l.length cI l w rfl (by omega) (fun i hi => by
    obtain ⟨g0, o0, e, _, hc⟩ := C_base hin (by omega)
    injection e with e
    subst e
    rw [Lib.addr_add]
    exact hc i hi))
  have HS := Lib.hid hS
  have HG := Lib.hid HGot
  have HGo := Lib.hid hgo
  have HLa := Lib.hid hla
  have HIx0 := Lib.hid hix0
  have inf38 : (Tryd.prog.info? 38).map (fun i => (i.zero, i.size, i.bytes)) = some (some (.agg #[.bool false, .slice none 0 0, .slice none 0 0, .int .i64 0, .string ⟨#[]⟩]), 5, 80) := by kernel_rfl
  obtain ⟨n, hn⟩ : ∃ n, n = ss.length := ⟨_, rfl⟩
  have HN := Lib.hid hn
  rw [← hn] at hns hle2 ⊢
  have HRe := Lib.hid (fun (W : World) (b g c i : Nat) (hr : Ses.RS W b g c l i big 64) (hi : i ≤ l.length) => Ses.rest_any W b g c l i big 64 hr hi)
  have HC2 := Lib.hid (fun (W : World) (A : Option Addr) (cc i : Nat) (h : Kd.C (Kd.int .u8) W A (l.drop i).length (l.drop i)) => clone_any A cc (l.drop i) W h (by rw [List.length_drop]; omega))
  clear hS HGot hgo hin hix0 hn hla
  go_enter Tryd.func18, Tryd.ntmps18
  go_wp2_with (first | (go_at_call 17; (with_reducible refine HCl.out.mono ?_); rintro e w1 ⟨v1, rfl, hown, hne, hb⟩; obtain ⟨g, c, rfl, hbg, hgl, hnc, hll, hcells⟩ := Ses.row_form hown hne; have HB1 := Lib.hid hb; have HC := Lib.hid hcells; clear hown hne hb hcells) | (go_at_call 39; (with_reducible refine (newSession _ w1 ⟨_, _, _, rfl⟩).mono ?_); rintro e w2 ⟨rfl, rfl⟩))
  have HRS : Hid (Ses.RS (w1.alloc (.cells #[.slice (some ⟨g, 0, none⟩) l.length c, .slice none 0 0, .int .i64 0, .int .i8 0, .int .i64 0, .bool big, .int .i64 64] 82)) w1.heap.size g c l 0 big 64) := Lib.hid (by
    have hgb : g ≠ w1.heap.size := by omega
    exact ⟨xb_new _ _, hgb, hnc, fun i hi => cell_alloc _ (HC.out i hi), hlm, by rw [World.size_alloc]; omega⟩)
  have HBw : Hid (Below w1.heap.size w1 (w1.alloc (.cells #[.slice (some ⟨g, 0, none⟩) l.length c, .slice none 0 0, .int .i64 0, .int .i8 0, .int .i64 0, .bool big, .int .i64 64] 82))) := Lib.hid (below_alloc (Below.refl _ _) _)
  generalize (w1.alloc (.cells #[.slice (some ⟨g, 0, none⟩) l.length c, .slice none 0 0, .int .i64 0, .int .i8 0, .int .i64 0, .bool big, .int .i64 64] 82)) = w3 at *
  have hb3 := xb_lt HRS.out.blk
  have hz1 := HB1.out.size
  have hz3 := HBw.out.size
  have HB3 := Lib.hid (HB1.out.trans (HBw.out.mono hz1))
  have HZ3 := Lib.hid (show w.heap.size ≤ w3.heap.size ∧ w1.heap.size < w3.heap.size ∧ g < w3.heap.size ∧ w.heap.size ≤ w1.heap.size from ⟨by omega, hb3, HRS.out.lt, hz1⟩)
  have HR0 : Hid (Ses.RS w3 w1.heap.size g c l (ix 0) big 64) := Lib.hid (by rw [HIx0.out]; exact HRS.out)
  clear HC HRS hbg hgl hnc hll hb3 hz1 hz3
  go_loopw [9, 22] (fun v9 v22 wr => ∃ j : Nat, v22 = .int .i64 j ∧ j ≤ n ∧ Hid (j < outs.length) ∧ Hid (Ses.gtKd.R 38 wr w3.heap.size (fun _ => True) v9 (outs.take j)) ∧ Hid (Ses.RS wr w1.heap.size g c l (ix j) big 64) ∧ Hid (Below w.heap.size w wr ∧ w3.heap.size ≤ wr.heap.size)) (fun _ v22 _ => n - (intOf v22).toNat)
  case atStart =>
    refine ⟨0, rfl, Nat.zero_le _, Lib.hid ?_, Lib.hid (by rw [List.take_zero]; exact Kd.R_nil _ _ _ _ _), HR0, Lib.hid ⟨HB3.out, Nat.le_refl _⟩⟩
    obtain ⟨o, h1, h2, h3⟩ := HLa.out
    exact h2
  case round =>
    obtain ⟨j, rfl, hjn, HJ, HO, HR, HBl⟩ := hrel
    by_cases hlt : j < n
    · have hjo : j < outs.length := by have := HJ.out; have := HN.out; omega
      obtain ⟨o, ho⟩ : ∃ o, outs[j]? = some o := ⟨_, List.getElem?_eq_getElem hjo⟩
      obtain ⟨s, hs⟩ : ∃ s, ss[j]? = some s := ⟨_, List.getElem?_eq_getElem (by have := HN.out; omega)⟩
      obtain ⟨g0, o0, rfl, -, hel⟩ := Kd.C_head (Kd.C_below HS.out HBl.out.1) (by decide) (by have := HN.out; omega)
      obtain ⟨cl, -, hK, hcell⟩ := hel j s hs
      obtain rfl := Ses.gs_open hK
      have HGj := Lib.hid (fun W (hW : Ses.RS W w1.heap.size g c l (ix j) big 64) (hBW : Below w.heap.size w W) => HG.out j s o hs ho W w1.heap.size g c hW hBW)
      obtain ⟨kd, sz, sb, sc⟩ := s
      have s0 : wr.cell? ⟨g0, o0 + j * 4, none⟩ = some (.int .i64 kd) := hcell 0 _ rfl
      have s1 : wr.cell? ⟨g0, o0 + j * 4 + 1, none⟩ = some (.int .i64 sz) := hcell 1 _ rfl
      have s2 : wr.cell? ⟨g0, o0 + j * 4 + 2, none⟩ = some (.bool sb) := hcell 2 _ rfl
      have s3 : wr.cell? ⟨g0, o0 + j * 4 + 3, none⟩ = some (.bool sc) := hcell 3 _ rfl
      simp only at HGj
      have HSo := Lib.hid ho
      obtain ⟨okb, d1, d2, num⟩ := o
      have HOw : Hid (∀ k, u9.ownBlock = some k → k < wr.heap.size) := Lib.hid (fun k hk => Kd.R_lt HO.out k hk)
      clear hel hK hcell hs ho hjo
      cases okb with
      | true =>
        go_wp2_with (first | (go_at_call 48; (with_reducible refine (HGj.out _ ?hrs ?hbb).mono ?_); (case hrs => exact HR.out.bl (below_alloc (Below.refl _ _) _)); (case hbb => exact HBl.out.1.alloc HBl.out.1.size _); rintro e w4 ⟨i4, hi4, hix4, A1, n1, c1, A2, n2, cc2, rfl, hd1, hd2, hrs, hg⟩; have HD1 := Lib.hid hd1; have HD2 := Lib.hid hd2; (rw [hix4 rfl] at hrs); have HR4 := Lib.hid hrs; clear hix4 hi4; have HG4 := Lib.hid hg; (have HS4 : Hid (w3.heap.size ≤ w4.heap.size ∧ wr.heap.size < w4.heap.size) := Lib.hid (by have h1 := hg.size; rw [World.size_alloc] at h1; have := HBl.out.2; omega)); (have HLow : Hid (w3.heap.size ≤ wr.heap.size ∧ wr.heap.size ≤ (wr.alloc (.cells #[.int .i64 kd, .int .i64 sz, .bool sb, .bool sc] 35)).heap.size) := Lib.hid ⟨HBl.out.2, by rw [World.size_alloc]; omega⟩); (have hO4 := Kd.R_mono (Kd.R_grown (Kd.R_mono (Kd.R_bound (Kd.R_alloc HO.out _)) (fun k hk => (show k ≠ w1.heap.size from by have := hk.2.1; have := HZ3.out; omega))) hg (fun k hk e => hk (Option.some.inj e))) (fun _ _ => trivial)); have HO4 : Hid (Ses.gtKd.R 38 w4 w3.heap.size (fun _ => True) u9 (outs.take j)) := Lib.hid hO4; clear hd1 hd2 hrs hg hO4) | ((with_reducible refine gate_builtin (b := .append) (xs := #[.tmp 29, .tmp 31]) rfl ?_); at_builtin; refine Kd.R_append Ses.gtKd (w0 := w4) w3.heap.size rfl (.tmp 29) (.tmp 31) 31 38 _ 80 rfl Tryd.underlying31 inf38 rfl (by decide) (by decide) u9 (outs.take j) ⟨true, d1, d2, num⟩ [.bool true, .slice A1 n1 c1, .slice A2 n2 cc2, .int .i64 num, .string ⟨#[]⟩] (fun _ => True) (fun k => wr.heap.size ≤ k) rfl ?aX ?aP ?aK (fun _ _ => trivial) ?aO ?aB ?aS ?aL ?_; (case aX => (rw [World.size_alloc]; rfl)); (case aP => exact Ses.gt_make (Kd.R_alloc (Ses.R_low HD1.out HLow.out) _) (Kd.R_alloc (Ses.R_low HD2.out HLow.out) _)); (case aK => exact fun k hk => ⟨trivial, fun e => by have := HOw.out k e.symm; omega⟩); (case aO => exact Kd.R_alloc HO4.out _); (case aB => exact (Below.refl w3.heap.size w4).alloc HS4.out.1 _); (case aS => (rw [World.size_alloc]; have := HS4.out; omega)); (case aL => (rw [List.length_take]; omega)); intro v20 w7 ho7 hb7 hg7 hat7; have HO7 := Lib.hid ho7; have HB7 := Lib.hid hb7; (have x7 := (hg7.block w4.heap.size (by rw [World.size_alloc]; exact Nat.lt_succ_self _) (fun e => by have := HOw.out _ e.symm; have := HS4.out; omega)).trans (xb_new w4 _)); have q7 := xb_cell x7 0; (simp only [List.getElem?_toArray, List.getElem?_cons_zero] at q7); clear ho7 hb7 hg7 hat7 x7))
        go_roundw
        case measure => simp [intOf]; omega
        case rel =>
          have hB4 : Below w.heap.size w w4 := grown_below (HBl.out.1.alloc HBl.out.1.size _) HG4.out (HBl.out.1.alloc HBl.out.1.size _).size HZ3.out.2.2.2
          have hB7 : Below w.heap.size w w7 := hB4.trans (HB7.out.mono HZ3.out.1)
          have hz7 : w3.heap.size ≤ w7.heap.size := by have := HB7.out.size; have := HS4.out; omega
          have hR7 : Ses.RS w7 w1.heap.size g c l (ix (j + 1)) big 64 := HR4.out.blB HB7.out HZ3.out.2.1 HZ3.out.2.2.1
          have htk : outs.take (j + 1) = outs.take j ++ [⟨true, d1, d2, num⟩] := by
            obtain ⟨hl, he⟩ := List.getElem?_eq_some_iff.1 HSo.out
            rw [List.take_succ_eq_append_getElem hl, he]
          refine ⟨j + 1, by go_num, by omega, Lib.hid ?_, Lib.hid (by rw [htk]; exact HO7.out), Lib.hid hR7, Lib.hid ⟨hB7, hz7⟩⟩
          have hl := (List.getElem?_eq_some_iff.1 HSo.out).1
          obtain ⟨o', h1, h2, h3⟩ := HLa.out
          by_cases hj1 : j + 1 < outs.length
          · exact hj1
          · have e : outs.length - 1 = j := by omega
            rw [e, HSo.out] at h1
            have e2 := Option.some.inj h1
            rw [← e2] at h3
            cases h3
      | false =>
        have hl := (List.getElem?_eq_some_iff.1 HSo.out).1
        have hjl : j + 1 = outs.length := by
          by_cases hj1 : j + 1 < outs.length
          · have := HGo.out.ok j _ HSo.out hj1
            cases this
          · omega
        have HJl := Lib.hid hjl
        clear hl hjl
        go_wp2_with (first | (go_at_call 48; (with_reducible refine (HGj.out _ ?hrs ?hbb).mono ?_); (case hrs => exact HR.out.bl (below_alloc (Below.refl _ _) _)); (case hbb => exact HBl.out.1.alloc HBl.out.1.size _); rintro e w4 ⟨i4, hi4, hix4, A1, n1, c1, A2, n2, cc2, rfl, hd1, hd2, hrs, hg⟩; have HD1 := Lib.hid hd1; have HD2 := Lib.hid hd2; have HI4 := Lib.hid hi4; have HR4 := Lib.hid hrs; clear hix4 hi4; have HG4 := Lib.hid hg; (have HS4 : Hid (w3.heap.size ≤ w4.heap.size ∧ wr.heap.size < w4.heap.size) := Lib.hid (by have h1 := hg.size; rw [World.size_alloc] at h1; have := HBl.out.2; omega)); (have HLow : Hid (w3.heap.size ≤ wr.heap.size ∧ wr.heap.size ≤ (wr.alloc (.cells #[.int .i64 kd, .int .i64 sz, .bool sb, .bool sc] 35)).heap.size) := Lib.hid ⟨HBl.out.2, by rw [World.size_alloc]; omega⟩); (have hO4 := Kd.R_mono (Kd.R_grown (Kd.R_mono (Kd.R_bound (Kd.R_alloc HO.out _)) (fun k hk => (show k ≠ w1.heap.size from by have := hk.2.1; have := HZ3.out; omega))) hg (fun k hk e => hk (Option.some.inj e))) (fun _ _ => trivial)); have HO4 : Hid (Ses.gtKd.R 38 w4 w3.heap.size (fun _ => True) u9 (outs.take j)) := Lib.hid hO4; clear hd1 hd2 hrs hg hO4) | ((with_reducible refine gate_builtin (b := .append) (xs := #[.tmp 29, .tmp 31]) rfl ?_); at_builtin; refine Kd.R_append Ses.gtKd (w0 := w4) w3.heap.size rfl (.tmp 29) (.tmp 31) 31 38 _ 80 rfl Tryd.underlying31 inf38 rfl (by decide) (by decide) u9 (outs.take j) ⟨false, d1, d2, num⟩ [.bool false, .slice A1 n1 c1, .slice A2 n2 cc2, .int .i64 num, .string ⟨#[]⟩] (fun _ => True) (fun k => wr.heap.size ≤ k) rfl ?aX ?aP ?aK (fun _ _ => trivial) ?aO ?aB ?aS ?aL ?_; (case aX => (rw [World.size_alloc]; rfl)); (case aP => exact Ses.gt_make (Kd.R_alloc (Ses.R_low HD1.out HLow.out) _) (Kd.R_alloc (Ses.R_low HD2.out HLow.out) _)); (case aK => exact fun k hk => ⟨trivial, fun e => by have := HOw.out k e.symm; omega⟩); (case aO => exact Kd.R_alloc HO4.out _); (case aB => exact (Below.refl w3.heap.size w4).alloc HS4.out.1 _); (case aS => (rw [World.size_alloc]; have := HS4.out; omega)); (case aL => (rw [List.length_take]; omega)); intro v20 w7 ho7 hb7 hg7 hat7; have HO7 := Lib.hid ho7; have HB7 := Lib.hid hb7; (have x7 := (hg7.block w4.heap.size (by rw [World.size_alloc]; exact Nat.lt_succ_self _) (fun e => by have := HOw.out _ e.symm; have := HS4.out; omega)).trans (xb_new w4 _)); have q7 := xb_cell x7 0; (simp only [List.getElem?_toArray, List.getElem?_cons_zero] at q7); clear ho7 hb7 hg7 hat7 x7))
        have hB4 : Below w.heap.size w w4 := grown_below (HBl.out.1.alloc HBl.out.1.size _) HG4.out (HBl.out.1.alloc HBl.out.1.size _).size HZ3.out.2.2.2
        have hB7 : Below w.heap.size w w7 := hB4.trans (HB7.out.mono HZ3.out.1)
        have hz7 : w3.heap.size ≤ w7.heap.size := by have := HB7.out.size; have := HS4.out; omega
        have hR7 : Ses.RS w7 w1.heap.size g c l i4 big 64 := HR4.out.blB HB7.out HZ3.out.2.1 HZ3.out.2.2.1
        have htk : outs.take (j + 1) = outs.take j ++ [⟨false, d1, d2, num⟩] := by
          obtain ⟨hl, he⟩ := List.getElem?_eq_some_iff.1 HSo.out
          rw [List.take_succ_eq_append_getElem hl, he]
        rw [HJl.out] at htk
        have htk2 : outs.take outs.length = outs := List.take_length
        rw [htk2] at htk
        have HO8 := Lib.hid HO7.out
        refine (HRe.out _ _ _ _ _ hR7 HI4.out).mono ?_
        rintro e w8 ⟨A8, c8, rfl, hC8, rfl⟩
        have HLr := Lib.hid (fun (W : World) (A : Option Addr) (cc : Nat) h => HC2.out W A cc i4 h)
        obtain ⟨lr, hlr⟩ : ∃ lr, lr = l.drop i4 := ⟨_, rfl⟩
        rw [← hlr] at hC8 HLr ⊢
        clear hlr
        have HC8 := Lib.hid hC8
        have HBf := Lib.hid hB7
        have HTk := Lib.hid htk
        have HZ7 := Lib.hid hz7
        clear hC8 hB4 hB7 hz7 hR7 htk htk2
        go_wp2_with (go_at_call 17; (with_reducible refine (HLr.out _ _ _ ?hC).mono ?_); (case hC => exact HC8.out); rintro e w9 ⟨v9b, rfl, hR9, hb9⟩; have HR9 := Lib.hid hR9; have HB9 := Lib.hid hb9; clear hR9 hb9)
        go_ret2
        have hB9 : Below w7.heap.size w7 w9 := (below_drew (Below.refl _ _)).trans (HB9.out.mono (Nat.le_refl _))
        rw [HTk.out]
        exact ⟨v20, v9b, rfl, Kd.R_lower (Kd.R_below HO8.out hB9) HZ3.out.1, HBf.out.trans (hB9.mono HBf.out.size)⟩
    · exfalso
      have := HJ.out
      have := HN.out
      have := HGo.out.len
      omega
end Go.Proofs.YtdnahdddkagfhaaDoor.X
