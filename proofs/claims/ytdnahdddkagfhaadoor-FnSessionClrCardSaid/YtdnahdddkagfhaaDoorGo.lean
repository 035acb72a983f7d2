/- impl.SessionGet of one step. -/
import Derived.Test.YtdnahdddkagfhaaDoorSg
namespace Go.Proofs.YtdnahdddkagfhaaDoor.X
open Go.RowKit Go.Proofs.YtdnahdddkagfhaaDoorW.PrintWords Go.Proofs.YtdnahdddkagfhaaDoorW.PrintMore
attribute [local go_sem] setCell_drewN alloc_drewN
set_option linter.unusedVariables false
set_option linter.unusedSimpArgs false
namespace Ses
/-- The cells of what a step gives. -/
def gotCells (d : Value) (num : Int) : List Value := [.bool true, d, .slice none 0 0, .int .i64 num, .string ⟨#[]⟩]
/-- A row of bytes that bytes.Clone gave, as the input of a new session. -/
theorem row_form {w : World} {base : Nat} {v : Value} {n : Nat} {l : List Int} (h : w.ownsRow base 5 1 v n (l.map (Value.int .u8))) (hne : v ≠ .slice none 0 0) : ∃ g c, v = .slice (some ⟨g, 0, none⟩) n c ∧ base ≤ g ∧ g < w.heap.size ∧ n ≤ c ∧ l.length = n ∧ ∀ i : Nat, i < n → w.cell? ⟨g, i, none⟩ = some (.int .u8 (l.getD i 0)) := by
  obtain ⟨hlen, h | ⟨g, cap, cur, rfl, hB, hg, hnc, hcm, hcs, htk⟩⟩ := h
  · exact absurd h.1 hne
  rw [List.length_map, Nat.mul_one] at hlen
  refine ⟨g, cap, rfl, hB, xb_lt hg, hnc, hlen, fun i hi => ?_⟩
  rw [xb_cell hg]
  rw [Nat.mul_one] at htk
  have e2 : (l.map (Value.int .u8))[i]? = some (.int .u8 (l.getD i 0)) := by
    rw [List.getElem?_map, List.getElem?_eq_getElem (by rw [hlen]; exact hi), List.getD_eq_getElem?_getD, List.getElem?_eq_getElem (by rw [hlen]; exact hi)]
    rfl
  rw [← Array.getElem?_toList, ← e2, ← htk, List.getElem?_take, if_pos hi]
theorem out_cells {w4 : World} {o1 o2 : Obj} {p z : Array Value} {T : TypeId} {i : Nat} {v : Value} (h : p[i]? = some v) : ((((w4.alloc o1).alloc o2).alloc (.cells (p ++ z) T)).drew).cell? ⟨w4.heap.size + 1 + 1, i, none⟩ = some v := by
  have hn := xb_new ((w4.alloc o1).alloc o2) (.cells (p ++ z) T)
  rw [World.size_alloc, World.size_alloc] at hn
  have hn2 : ((((w4.alloc o1).alloc o2).alloc (.cells (p ++ z) T)).drew).heap[w4.heap.size + 1 + 1]? = some (.cells (p ++ z) T (0, 0)) := hn
  rw [xb_cell hn2, Array.getElem?_append_left (Array.getElem?_eq_some_iff.1 h).1]
  exact h
theorem drop_cells {w : World} {g idx : Nat} {l : List Int} (h : ∀ i : Nat, i < l.length → w.cell? ⟨g, i, none⟩ = some (.int .u8 (l.getD i 0))) (i : Nat) (hi : i < l.length - idx) : w.cell? ((⟨g, idx, none⟩ : Addr).add i) = some (.int .u8 ((l.drop idx).getD i 0)) := by
  have e : (l.drop idx).getD i 0 = l.getD (idx + i) 0 := by simp [List.getD_eq_getElem?_getD, List.getElem?_drop]
  rw [e, ← h (idx + i) (by omega)]
  unfold Addr.add
  split
  · rename_i hz
    have hz' : i = 0 := by simpa using hz
    subst hz'
    rfl
  · rfl
theorem R_clone {w : World} {base : Nat} {v : Value} {n : Nat} {l : List Int} (h : w.ownsRow base 5 1 v n (l.map (Value.int .u8))) (hn : l.length = n) (b0 : Nat) (hb : b0 ≤ base) : Kd.R (Kd.int .u8) 5 w b0 (fun _ => True) v l := by
  subst hn
  exact Kd.R_lower (Kd.R_of_own h (fun _ _ => trivial)) hb
end Ses
set_option maxHeartbeats 4000000 in
set_option maxRecDepth 100000 in
theorem get_one (D : World → Value → Prop) (hD : ∀ W W' d, D W d → Below W.heap.size W W' → D W' d) (kind size : Int) (sb sc big : Bool) (l : List Int) (idx : Nat) (num : Int) (hl0 : 0 < l.length) (hlm : l.length ≤ 1000000) (hidx : idx ≤ l.length)
    (HGot : ∀ (W : World) (b g c : Nat), Ses.RS W b g c l 0 big 64 → Calls Tryd.prog 48 #[.pointer (some ⟨b, 0, none⟩), .agg #[.int .i64 kind, .int .i64 size, .bool sb, .bool sc]] W fun e w' => ∃ A n cc, e = .returned (.agg #[.bool true, .slice A n cc, .slice none 0 0, .int .i64 num, .string ⟨#[]⟩]) ∧ D w' (.slice A n cc) ∧ Ses.RS w' b g c l idx big 64 ∧ W.grownBy w' (some b))
    (w : World) (a : Addr) (cI g0 : Nat) (hin : ∀ i, i < l.length → w.cell? (a.add i) = some (.int .u8 (l.getD i 0))) (s0 : w.cell? ⟨g0, 0, none⟩ = some (.int .i64 kind)) (s1 : w.cell? ⟨g0, 1, none⟩ = some (.int .i64 size)) (s2 : w.cell? ⟨g0, 2, none⟩ = some (.bool sb)) (s3 : w.cell? ⟨g0, 3, none⟩ = some (.bool sc)) :
    Calls Tryd.prog 18 #[.slice (some a) l.length cI, .slice (some ⟨g0, 0, none⟩) 1 1, .bool big] w fun e w' => ∃ dA dn dc g2 c2 v2, e = .returned (.tuple #[.slice (some ⟨g2, 0, none⟩) 1 c2, v2]) ∧ (w'.cell? ⟨g2, 0, none⟩ = some (.bool true) ∧ w'.cell? ⟨g2, 1, none⟩ = some (.slice dA dn dc) ∧ w'.cell? ⟨g2, 3, none⟩ = some (.int .i64 num)) ∧ D w' (.slice dA dn dc) ∧ Kd.R (Kd.int .u8) 5 w' w.heap.size (fun _ => True) v2 (l.drop idx) ∧ Below w.heap.size w w' := by
  have HCl := Lib.hid (Tryd.bytes_Clone_at a l.length cI l w rfl (by omega) hin)
  have HS := Lib.hid (⟨s0, s1, s2, s3⟩ : w.cell? ⟨g0, 0, none⟩ = some (.int .i64 kind) ∧ w.cell? ⟨g0, 1, none⟩ = some (.int .i64 size) ∧ w.cell? ⟨g0, 2, none⟩ = some (.bool sb) ∧ w.cell? ⟨g0, 3, none⟩ = some (.bool sc))
  have HG := Lib.hid HGot
  have HDm := Lib.hid hD
  have hg0 := World.block_lt_of_cell? w _ s0
  clear s0 s1 s2 s3 hin HGot hD
  go_enter Tryd.func18, Tryd.ntmps18
  go_wp2_with (first | (go_at_call 17; (with_reducible refine HCl.out.mono ?_); rintro e w1 ⟨v1, rfl, hown, hne, hb⟩; obtain ⟨g, c, rfl, hbg, hgl, hnc, hll, hcells⟩ := Ses.row_form hown hne; have HB1 := Lib.hid hb; have HC := Lib.hid hcells; clear hown hne hb hcells) | (go_at_call 39; (with_reducible refine (newSession _ w1 ⟨_, _, _, rfl⟩).mono ?_); rintro e w2 ⟨rfl, rfl⟩))
  have HRS : Hid (Ses.RS (w1.alloc (.cells #[.slice (some ⟨g, 0, none⟩) l.length c, .slice none 0 0, .int .i64 0, .int .i8 0, .int .i64 0, .bool big, .int .i64 64] 82)) w1.heap.size g c l 0 big 64) := Lib.hid (by
    have hgb : g ≠ w1.heap.size := by omega
    exact ⟨xb_new _ _, hgb, hnc, fun i hi => cell_alloc _ (HC.out i hi), hlm, by rw [World.size_alloc]; omega⟩)
  have HBw : Hid (Below w1.heap.size w1 (w1.alloc (.cells #[.slice (some ⟨g, 0, none⟩) l.length c, .slice none 0 0, .int .i64 0, .int .i8 0, .int .i64 0, .bool big, .int .i64 64] 82))) := Lib.hid (below_alloc (Below.refl _ _) _)
  generalize (w1.alloc (.cells #[.slice (some ⟨g, 0, none⟩) l.length c, .slice none 0 0, .int .i64 0, .int .i8 0, .int .i64 0, .bool big, .int .i64 64] 82)) = w3 at *
  have hb3 := xb_lt HRS.out.blk
  have hz1 := HB1.out.size
  have hz3 := HBw.out.size
  have HS3 : Hid (∀ W, Below w1.heap.size w1 W → W.cell? ⟨g0, 0, none⟩ = some (.int .i64 kind) ∧ W.cell? ⟨g0, 1, none⟩ = some (.int .i64 size) ∧ W.cell? ⟨g0, 2, none⟩ = some (.bool sb) ∧ W.cell? ⟨g0, 3, none⟩ = some (.bool sc)) := Lib.hid (fun W hW => by
    obtain ⟨s0, s1, s2, s3⟩ := HS.out
    exact ⟨bl_cell hW (bl_cell HB1.out s0), bl_cell hW (bl_cell HB1.out s1), bl_cell hW (bl_cell HB1.out s2), bl_cell hW (bl_cell HB1.out s3)⟩)
  have HB3 := Lib.hid (HB1.out.trans (HBw.out.mono hz1))
  clear HC HS
  go_loopw [9, 22] (fun v9 v22 wr => (v22 = .int .i64 0 ∧ v9 = .slice none 0 0 ∧ wr = w3) ∨ (v22 = .int .i64 1 ∧ ∃ g2 c2, v9 = .slice (some ⟨g2, 0, none⟩) 1 c2 ∧ Hid (∃ dA dn dc, (wr.cell? ⟨g2, 0, none⟩ = some (.bool true) ∧ wr.cell? ⟨g2, 1, none⟩ = some (.slice dA dn dc) ∧ wr.cell? ⟨g2, 3, none⟩ = some (.int .i64 num)) ∧ D wr (.slice dA dn dc) ∧ Ses.RS wr w1.heap.size g c l idx big 64) ∧ Hid (Below w.heap.size w wr))) (fun _ v22 _ => 1 - (intOf v22).toNat)
  case atStart => exact .inl ⟨rfl, rfl, rfl⟩
  case round =>
    rcases hrel with ⟨rfl, rfl, rfl⟩ | ⟨rfl, g2, c2, rfl, HP, HBr⟩
    · obtain ⟨s0, s1, s2, s3⟩ := HS3.out _ HBw.out
      have HGc := Lib.hid (fun W hW => HG.out W w1.heap.size g c hW)
      go_wp2_with (first | (go_at_call 48; (with_reducible refine (HGc.out _ ?hrs).mono ?_); (case hrs => exact HRS.out.bl (below_alloc (Below.refl _ _) _)); rintro e w4 ⟨dA, dn, dc, rfl, hd, hrs, hg⟩; have HR4 := Lib.hid hrs; have HG4 := Lib.hid hg; have HD4 := Lib.hid hd; clear hrs hg hd))
      go_roundw
      case measure => simp [intOf]
      case rel =>
        have hB4 : Below w4.heap.size w4 (((w4.alloc (.cells #[.bool true, .slice dA dn dc, .slice none 0 0, .int .i64 num, .string ⟨#[]⟩] 38)).alloc (.cells #[.bool true, .slice dA dn dc, .slice none 0 0, .int .i64 num, .string ⟨#[]⟩] 38)).alloc (.cells (#[.bool true, .slice dA dn dc, .slice none 0 0, .int .i64 num, .string ⟨#[]⟩] ++ Builtin.zeroCells #[.bool false, .slice none 0 0, .slice none 0 0, .int .i64 0, .string ⟨#[]⟩] ((Question.appendCap 1 0 38).cut (w4.tape w4.drawn (Question.appendCap 1 0 38)) - 1)) 38)).drew := below_drew (below_alloc (below_alloc (below_alloc (Below.refl _ _) _) _) _)
        refine .inr ⟨rfl, _, _, rfl, Lib.hid ⟨dA, dn, dc, ?_, HDm.out _ _ _ HD4.out hB4, HR4.out.bl hB4⟩, Lib.hid ?_⟩
        · exact ⟨Ses.out_cells rfl, Ses.out_cells rfl, Ses.out_cells rfl⟩
        · exact (grown_below (HB3.out.alloc HB3.out.size _) HG4.out (HB3.out.alloc HB3.out.size _).size hz1).trans (hB4.mono (grown_below (HB3.out.alloc HB3.out.size _) HG4.out (HB3.out.alloc HB3.out.size _).size hz1).size)
    · obtain ⟨dA, dn, dc, hc, hd, hrs⟩ := HP.out
      have hre := rest_ok wr w1.heap.size g c l idx big 64 hrs hidx
      have HK := Lib.hid hc
      have HD := Lib.hid hd
      have HCe := Lib.hid hrs.cells
      by_cases hci : c = idx
      · rw [if_pos hci] at hre
        have HRe := Lib.hid hre
        have HC2 := Lib.hid (Tryd.bytes_Clone_at ⟨g, 0, none⟩ (l.length - idx) (c - idx) (l.drop idx) wr.drew (by rw [List.length_drop]) (by omega) (fun i hi => absurd hi (by omega)))
        clear hci hre hrs hc hd HP HRS HG HS3 HCl
        go_wp2_with (first | (go_at_call 49; (with_reducible refine HRe.out.mono ?_); rintro e w5 ⟨rfl, rfl⟩) | (go_at_call 17; (with_reducible refine HC2.out.mono ?_); rintro e w6 ⟨v6, rfl, hown, hne6, hb6⟩; have HO6 := Lib.hid hown; have HB6 := Lib.hid hb6; clear hown hne6 hb6))
        go_ret2
        have hB7 : Below wr.heap.size wr w6 := (below_drew (Below.refl _ _)).trans (HB6.out.mono (Nat.le_refl _))
        exact ⟨dA, dn, dc, g2, c2, v6, rfl, ⟨bl_cell hB7 HK.out.1, bl_cell hB7 HK.out.2.1, bl_cell hB7 HK.out.2.2⟩, HDm.out _ _ _ HD.out hB7, Ses.R_clone HO6.out (by rw [List.length_drop]) w.heap.size HBr.out.size, HBr.out.trans (hB7.mono HBr.out.size)⟩
      · rw [if_neg hci] at hre
        have HRe := Lib.hid hre
        have HC2 := Lib.hid (Tryd.bytes_Clone_at ⟨g, idx, none⟩ (l.length - idx) (c - idx) (l.drop idx) wr.drew (by rw [List.length_drop]) (by omega) (fun i hi => Ses.drop_cells HCe.out i hi))
        clear hre hrs hc hd HP HRS HG HS3 HCl
        go_wp2_with (first | (go_at_call 49; (with_reducible refine HRe.out.mono ?_); rintro e w5 ⟨rfl, rfl⟩) | (go_at_call 17; (with_reducible refine HC2.out.mono ?_); rintro e w6 ⟨v6, rfl, hown, hne6, hb6⟩; have HO6 := Lib.hid hown; have HB6 := Lib.hid hb6; clear hown hne6 hb6))
        go_ret2
        have hB7 : Below wr.heap.size wr w6 := (below_drew (Below.refl _ _)).trans (HB6.out.mono (Nat.le_refl _))
        exact ⟨dA, dn, dc, g2, c2, v6, rfl, ⟨bl_cell hB7 HK.out.1, bl_cell hB7 HK.out.2.1, bl_cell hB7 HK.out.2.2⟩, HDm.out _ _ _ HD.out hB7, Ses.R_clone HO6.out (by rw [List.length_drop]) w.heap.size HBr.out.size, HBr.out.trans (hB7.mono HBr.out.size)⟩
end Go.Proofs.YtdnahdddkagfhaaDoor.X
