/- impl.SessionGet of two steps. -/
import Derived.Test.YtdnahdddkagfhaaDoorTb
namespace Go.Proofs.YtdnahdddkagfhaaDoor.X
open Go.RowKit Go.Proofs.YtdnahdddkagfhaaDoorW.PrintWords Go.Proofs.YtdnahdddkagfhaaDoorW.PrintMore
attribute [local go_sem] setCell_drewN alloc_drewN
set_option linter.unusedVariables false
set_option linter.unusedSimpArgs false
set_option maxHeartbeats 4000000 in
set_option maxRecDepth 100000 in
theorem get_two (kind size : Int) (sb sc big : Bool) (l : List Int) (idx1 idx : Nat) (num1 num : Int) (hl0 : 0 < l.length) (hlm : l.length ≤ 1000000) (hidx : idx ≤ l.length)
    (HGot1 : ∀ (W : World) (b g c : Nat), Ses.RS W b g c l 0 big 64 → Calls Tryd.prog 48 #[.pointer (some ⟨b, 0, none⟩), .agg #[.int .i64 kind, .int .i64 size, .bool sb, .bool sc]] W fun e w' => ∃ A n cc, e = .returned (.agg #[.bool true, .slice A n cc, .slice none 0 0, .int .i64 num1, .string ⟨#[]⟩]) ∧ Value.slice none 0 0 = .slice A n cc ∧ Ses.RS w' b g c l idx1 big 64 ∧ W.grownBy w' (some b))
    (HGot2 : ∀ (W : World) (b g c : Nat), Ses.RS W b g c l idx1 big 64 → Calls Tryd.prog 48 #[.pointer (some ⟨b, 0, none⟩), .agg #[.int .i64 kind, .int .i64 size, .bool sb, .bool sc]] W fun e w' => ∃ A n cc, e = .returned (.agg #[.bool true, .slice A n cc, .slice none 0 0, .int .i64 num, .string ⟨#[]⟩]) ∧ Value.slice none 0 0 = .slice A n cc ∧ Ses.RS w' b g c l idx big 64 ∧ W.grownBy w' (some b))
    (w : World) (a : Addr) (cI g0 : Nat) (hin : ∀ i, i < l.length → w.cell? (a.add i) = some (.int .u8 (l.getD i 0))) (s0 : w.cell? ⟨g0, 0, none⟩ = some (.int .i64 kind)) (s1 : w.cell? ⟨g0, 1, none⟩ = some (.int .i64 size)) (s2 : w.cell? ⟨g0, 2, none⟩ = some (.bool sb)) (s3 : w.cell? ⟨g0, 3, none⟩ = some (.bool sc)) (s4 : w.cell? ⟨g0, 4, none⟩ = some (.int .i64 kind)) (s5 : w.cell? ⟨g0, 5, none⟩ = some (.int .i64 size)) (s6 : w.cell? ⟨g0, 6, none⟩ = some (.bool sb)) (s7 : w.cell? ⟨g0, 7, none⟩ = some (.bool sc)) :
    Calls Tryd.prog 18 #[.slice (some a) l.length cI, .slice (some ⟨g0, 0, none⟩) 2 2, .bool big] w fun e w' => ∃ v v2, e = .returned (.tuple #[v, v2]) ∧ (Kd.raw 5).R 38 w' w.heap.size (fun _ => True) v [[.bool true, .slice none 0 0, .slice none 0 0, .int .i64 num1, .string ⟨#[]⟩], [.bool true, .slice none 0 0, .slice none 0 0, .int .i64 num, .string ⟨#[]⟩]] ∧ Kd.R (Kd.int .u8) 5 w' w.heap.size (fun _ => True) v2 (l.drop idx) ∧ Below w.heap.size w w' := by
  have HCl := Lib.hid (Tryd.bytes_Clone_at a l.length cI l w rfl (by omega) hin)
  have HS := Lib.hid (⟨s0, s1, s2, s3, s4, s5, s6, s7⟩ : w.cell? ⟨g0, 0, none⟩ = some (.int .i64 kind) ∧ w.cell? ⟨g0, 1, none⟩ = some (.int .i64 size) ∧ w.cell? ⟨g0, 2, none⟩ = some (.bool sb) ∧ w.cell? ⟨g0, 3, none⟩ = some (.bool sc) ∧ w.cell? ⟨g0, 4, none⟩ = some (.int .i64 kind) ∧ w.cell? ⟨g0, 5, none⟩ = some (.int .i64 size) ∧ w.cell? ⟨g0, 6, none⟩ = some (.bool sb) ∧ w.cell? ⟨g0, 7, none⟩ = some (.bool sc))
  have HG1 := Lib.hid HGot1
  have HG2 := Lib.hid HGot2
  have hg0 := World.block_lt_of_cell? w _ s0
  clear s0 s1 s2 s3 s4 s5 s6 s7 hin HGot1 HGot2
  go_enter Tryd.func18, Tryd.ntmps18
  go_wp2_with (first | (go_at_call 17; (with_reducible refine HCl.out.mono ?_); rintro e w1 ⟨v1, rfl, hown, hne, hb⟩; obtain ⟨g, c, rfl, hbg, hgl, hnc, hll, hcells⟩ := Ses.row_form hown hne; have HB1 := Lib.hid hb; have HC := Lib.hid hcells; clear hown hne hb hcells) | (go_at_call 39; (with_reducible refine (newSession _ w1 ⟨_, _, _, rfl⟩).mono ?_); rintro e w2 ⟨rfl, rfl⟩))
  have HRS : Hid (Ses.RS (w1.alloc (.cells #[.slice (some ⟨g, 0, none⟩) l.length c, .slice none 0 0, .int .i64 0, .int .i8 0, .int .i64 0, .bool big, .int .i64 64] 82)) w1.heap.size g c l 0 big 64) := Lib.hid (by
    have hgb : g ≠ w1.heap.size := by omega
    exact ⟨xb_new _ _, hgb, hnc, fun i hi => cell_alloc _ (HC.out i hi), hlm, by rw [World.size_alloc]; omega⟩)
  have HBw : Hid (Below w1.heap.size w1 (w1.alloc (.cells #[.slice (some ⟨g, 0, none⟩) l.length c, .slice none 0 0, .int .i64 0, .int .i8 0, .int .i64 0, .bool big, .int .i64 64] 82))) := Lib.hid (below_alloc (Below.refl _ _) _)
  generalize (w1.alloc (.cells #[.slice (some ⟨g, 0, none⟩) l.length c, .slice none 0 0, .int .i64 0, .int .i8 0, .int .i64 0, .bool big, .int .i64 64] 82)) = w3 at *
  have hb3 := xb_lt HRS.out.blk
  have hz1 := HB1.out.size
  have hz3 := HBw.out.size
  have HSw : Hid (∀ W, Below w.heap.size w W → W.cell? ⟨g0, 0, none⟩ = some (.int .i64 kind) ∧ W.cell? ⟨g0, 1, none⟩ = some (.int .i64 size) ∧ W.cell? ⟨g0, 2, none⟩ = some (.bool sb) ∧ W.cell? ⟨g0, 3, none⟩ = some (.bool sc) ∧ W.cell? ⟨g0, 4, none⟩ = some (.int .i64 kind) ∧ W.cell? ⟨g0, 5, none⟩ = some (.int .i64 size) ∧ W.cell? ⟨g0, 6, none⟩ = some (.bool sb) ∧ W.cell? ⟨g0, 7, none⟩ = some (.bool sc)) := Lib.hid (fun W hW => by
    obtain ⟨s0, s1, s2, s3, s4, s5, s6, s7⟩ := HS.out
    exact ⟨bl_cell hW s0, bl_cell hW s1, bl_cell hW s2, bl_cell hW s3, bl_cell hW s4, bl_cell hW s5, bl_cell hW s6, bl_cell hW s7⟩)
  have HB3 := Lib.hid (HB1.out.trans (HBw.out.mono hz1))
  have inf38 : (Tryd.prog.info? 38).map (fun i => (i.zero, i.size, i.bytes)) = some (some (.agg #[.bool false, .slice none 0 0, .slice none 0 0, .int .i64 0, .string ⟨#[]⟩]), 5, 80) := by kernel_rfl
  clear HC HS
  go_loopw [9, 22] (fun v9 v22 wr => (v22 = .int .i64 0 ∧ v9 = .slice none 0 0 ∧ wr = w3) ∨ (v22 = .int .i64 1 ∧ w3.heap.size ≤ wr.heap.size ∧ Hid ((Kd.raw 5).R 38 wr w3.heap.size (fun _ => True) v9 [[.bool true, .slice none 0 0, .slice none 0 0, .int .i64 num1, .string ⟨#[]⟩]]) ∧ Hid (Ses.RS wr w1.heap.size g c l idx1 big 64) ∧ Hid (Below w.heap.size w wr)) ∨ (v22 = .int .i64 2 ∧ Hid ((Kd.raw 5).R 38 wr w3.heap.size (fun _ => True) v9 [[.bool true, .slice none 0 0, .slice none 0 0, .int .i64 num1, .string ⟨#[]⟩], [.bool true, .slice none 0 0, .slice none 0 0, .int .i64 num, .string ⟨#[]⟩]]) ∧ Hid (Ses.RS wr w1.heap.size g c l idx big 64) ∧ Hid (Below w.heap.size w wr))) (fun _ v22 _ => 2 - (intOf v22).toNat)
  case atStart => exact .inl ⟨rfl, rfl, rfl⟩
  case round =>
    have hb3g : g < w3.heap.size := HRS.out.lt
    rcases hrel with ⟨rfl, rfl, rfl⟩ | ⟨rfl, hzr, HO, HR, HBl⟩ | ⟨rfl, HO, HR, HBl⟩
    · obtain ⟨s0, s1, s2, s3, s4, s5, s6, s7⟩ := HSw.out _ HB3.out
      have HGc := Lib.hid (fun W hW => HG1.out W w1.heap.size g c hW)
      go_wp2_with (first | (go_at_call 48; (with_reducible refine (HGc.out _ ?hrs).mono ?_); (case hrs => exact HRS.out.bl (below_alloc (Below.refl _ _) _)); rintro e w4 ⟨dA, dn, dc, rfl, hd, hrs, hg⟩; injection hd with hd1 hd2 hd3; subst hd1; subst hd2; subst hd3; have HR4 := Lib.hid hrs; have HG4 := Lib.hid hg; clear hrs hg) | ((with_reducible refine gate_builtin (b := .append) (xs := #[.tmp 29, .tmp 31]) rfl ?_); at_builtin; refine Kd.R_append (Kd.raw 5) (w0 := w4) w4.heap.size rfl (.tmp 29) (.tmp 31) 31 38 _ 80 rfl Tryd.underlying31 inf38 rfl (by decide) (by decide) (.slice none 0 0) [] [.bool true, .slice none 0 0, .slice none 0 0, .int .i64 num1, .string ⟨#[]⟩] [.bool true, .slice none 0 0, .slice none 0 0, .int .i64 num1, .string ⟨#[]⟩] (fun _ => True) (fun _ => False) rfl ?aX ?aP (fun _ hk => hk.elim) (fun _ _ => trivial) ?aO ?aB ?aS (by decide) ?_; (case aX => (rw [World.size_alloc]; rfl)); (case aP => exact ⟨rfl, rfl, by simp [Value.oneCell']⟩); (case aO => exact Kd.R_nil _ _ _ _ _); (case aB => exact below_alloc (Below.refl _ _) _); (case aS => exact (below_alloc (Below.refl w4.heap.size w4) _).size); intro v20 w7 ho hb hg2 hat; have HO7 := Lib.hid ho; have HB7 := Lib.hid hb; have HR7 := Lib.hid (HR4.out.bl hb); (have x7 := (hg2.block w4.heap.size (by rw [World.size_alloc]; exact Nat.lt_succ_self _) (fun e => by cases e)).trans (xb_new w4 _)); have q7 := xb_cell x7 0; clear ho hb hg2 hat))
      go_roundw
      case measure => simp [intOf]
      case rel =>
        have hz4 := HG4.out.size
        rw [World.size_alloc] at hz4
        have hB4 := grown_below (HB3.out.alloc HB3.out.size _) HG4.out (HB3.out.alloc HB3.out.size _).size hz1
        have hz7 := HB7.out.size
        exact .inr (.inl ⟨rfl, by omega, Lib.hid (Kd.R_lower HO7.out (by omega)), HR7, Lib.hid (hB4.trans (HB7.out.mono hB4.size))⟩)
    · obtain ⟨s0, s1, s2, s3, s4, s5, s6, s7⟩ := HSw.out _ HBl.out
      have HGc := Lib.hid (fun W hW => HG2.out W w1.heap.size g c hW)
      go_wp2_with (first | (go_at_call 48; (with_reducible refine (HGc.out _ ?hrs).mono ?_); (case hrs => exact HR.out.bl (below_alloc (Below.refl _ _) _)); rintro e w4 ⟨dA, dn, dc, rfl, hd, hrs, hg⟩; injection hd with hd1 hd2 hd3; subst hd1; subst hd2; subst hd3; (have hO4 := Kd.R_mono (Kd.R_grown (Kd.R_mono (Kd.R_bound (Kd.R_alloc HO.out _)) (fun k hk => (show k ≠ w1.heap.size from by have := hk.2.1; omega))) hg (fun k hk e => hk (Option.some.inj e))) (fun _ _ => trivial)); have HO4 : Hid ((Kd.raw 5).R 38 w4 w3.heap.size (fun _ => True) u9 [[.bool true, .slice none 0 0, .slice none 0 0, .int .i64 num1, .string ⟨#[]⟩]]) := Lib.hid hO4; have HR4 := Lib.hid hrs; have HG4 := Lib.hid hg; (have hz4 := hg.size); (rw [World.size_alloc] at hz4); clear hrs hg hO4) | ((with_reducible refine gate_builtin (b := .append) (xs := #[.tmp 29, .tmp 31]) rfl ?_); at_builtin; refine Kd.R_append (Kd.raw 5) (w0 := w4) w3.heap.size rfl (.tmp 29) (.tmp 31) 31 38 _ 80 rfl Tryd.underlying31 inf38 rfl (by decide) (by decide) u9 [[.bool true, .slice none 0 0, .slice none 0 0, .int .i64 num1, .string ⟨#[]⟩]] [.bool true, .slice none 0 0, .slice none 0 0, .int .i64 num, .string ⟨#[]⟩] [.bool true, .slice none 0 0, .slice none 0 0, .int .i64 num, .string ⟨#[]⟩] (fun _ => True) (fun _ => False) rfl ?aX ?aP (fun _ hk => hk.elim) (fun _ _ => trivial) ?aO ?aB ?aS (by simp only [List.length_cons, List.length_nil]; omega) ?_; (case aX => (rw [World.size_alloc]; rfl)); (case aP => exact ⟨rfl, rfl, by simp [Value.oneCell']⟩); (case aO => exact Kd.R_alloc HO4.out _); (case aB => exact (Below.refl w3.heap.size w4).alloc (by omega) _); (case aS => (rw [World.size_alloc]; omega)); intro v20 w7 ho hb hg2 hat; have HO7 := Lib.hid ho; have HB7 := Lib.hid hb; have HR7 := Lib.hid (HR4.out.blB hb (xb_lt HRS.out.blk) hb3g); (have x7 := (hg2.block w4.heap.size (by rw [World.size_alloc]; exact Nat.lt_succ_self _) (fun e => by have := Kd.R_lt HO4.out w4.heap.size e.symm; omega)).trans (xb_new w4 _)); have q7 := xb_cell x7 0; clear ho hb hg2 hat))
      go_roundw
      case measure => simp [intOf]
      case rel =>
        have hB4 := grown_below (HBl.out.alloc HBl.out.size _) HG4.out (HBl.out.alloc HBl.out.size _).size hz1
        exact .inr (.inr ⟨rfl, HO7, HR7, Lib.hid (hB4.trans (HB7.out.mono (by omega)))⟩)
    · obtain ⟨hok, hcap0⟩ : True ∧ True := ⟨trivial, trivial⟩
      have hrs := HR.out
      have hre := rest_ok wr w1.heap.size g c l idx big 64 hrs hidx
      have HCe := Lib.hid hrs.cells
      have hzw : w.heap.size ≤ w3.heap.size := by omega
      by_cases hci : c = idx
      · rw [if_pos hci] at hre
        have HRe := Lib.hid hre
        have HC2 := Lib.hid (Tryd.bytes_Clone_at ⟨g, 0, none⟩ (l.length - idx) (c - idx) (l.drop idx) wr.drew (by rw [List.length_drop]) (by omega) (fun i hi => absurd hi (by omega)))
        clear hci hre hrs HRS HG1 HG2 HSw HCl
        go_wp2_with (first | (go_at_call 49; (with_reducible refine HRe.out.mono ?_); rintro e w5 ⟨rfl, rfl⟩) | (go_at_call 17; (with_reducible refine HC2.out.mono ?_); rintro e w6 ⟨v6, rfl, hown, hne6, hb6⟩; have HO6 := Lib.hid hown; have HB6 := Lib.hid hb6; clear hown hne6 hb6))
        go_ret2
        have hB7 : Below wr.heap.size wr w6 := (below_drew (Below.refl _ _)).trans (HB6.out.mono (Nat.le_refl _))
        exact ⟨_, v6, rfl, Kd.R_lower (Kd.R_below HO.out hB7) (by omega), Ses.R_clone HO6.out (by rw [List.length_drop]) w.heap.size HBl.out.size, HBl.out.trans (hB7.mono HBl.out.size)⟩
      · rw [if_neg hci] at hre
        have HRe := Lib.hid hre
        have HC2 := Lib.hid (Tryd.bytes_Clone_at ⟨g, idx, none⟩ (l.length - idx) (c - idx) (l.drop idx) wr.drew (by rw [List.length_drop]) (by omega) (fun i hi => Ses.drop_cells HCe.out i hi))
        clear hre hrs HRS HG1 HG2 HSw HCl
        go_wp2_with (first | (go_at_call 49; (with_reducible refine HRe.out.mono ?_); rintro e w5 ⟨rfl, rfl⟩) | (go_at_call 17; (with_reducible refine HC2.out.mono ?_); rintro e w6 ⟨v6, rfl, hown, hne6, hb6⟩; have HO6 := Lib.hid hown; have HB6 := Lib.hid hb6; clear hown hne6 hb6))
        go_ret2
        have hB7 : Below wr.heap.size wr w6 := (below_drew (Below.refl _ _)).trans (HB6.out.mono (Nat.le_refl _))
        exact ⟨_, v6, rfl, Kd.R_lower (Kd.R_below HO.out hB7) (by omega), Ses.R_clone HO6.out (by rw [List.length_drop]) w.heap.size HBl.out.size, HBl.out.trans (hB7.mono HBl.out.size)⟩
end Go.Proofs.YtdnahdddkagfhaaDoor.X
