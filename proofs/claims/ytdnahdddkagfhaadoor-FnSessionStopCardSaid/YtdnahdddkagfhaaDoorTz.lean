/- Merged: Go Gs Gl Gg Po Lv Gi Guz Gkz Rez Rlz Gm Gp Rmz Gz. -/
import Derived.Test.YtdnahdddkagfhaaDoorTa
/- impl.SessionGet of one step. -/
namespace Go.Proofs.YtdnahdddkagfhaaDoor.X
open Go.RowKit Go.Proofs.YtdnahdddkagfhaaDoorW.PrintWords Go.Proofs.YtdnahdddkagfhaaDoorW.PrintMore
attribute [local go_sem] setCell_drewN alloc_drewN
set_option linter.unusedVariables false
set_option linter.unusedSimpArgs false
namespace Ses
/-- The cells of what a step gives. -/
def gotCells (d : Value) (num : Int) : List Value := [.bool true, d, .slice none 0 0, .int .i64 num, .string ⟨#[]⟩]
/-- A row of bytes that bytes.Clone gave, as the input of a new session. -/
theorem row_form {w : World} {base : Nat} {v : Value} {n : Nat} {l : List Int} (h : w.ownsRow base 5 1 v n (l.map (Value.int .u8))) (hne : v ≠ .slice none 0 0) : ∃ g c, v = .slice (some ⟨g, 0, none⟩) n c ∧ base ≤ g ∧ g < w.heap.size ∧ n ≤ c ∧ l.length = n ∧ ∀ i : Nat, i < n → w.cell? ⟨g, i, none⟩ = some (.int .u8 (l.getD i 0)) := by
  obtain ⟨hlen, h | ⟨g, cap, cur, rfl, hB, hg, hnc, hcm, hcs, htk⟩⟩ := h
  · exact absurd h.1 hne
  rw [List.length_map, Nat.mul_one] at hlen
  refine ⟨g, cap, rfl, hB, xb_lt hg, hnc, hlen, fun i hi => ?_⟩
  rw [xb_cell hg]
  rw [Nat.mul_one] at htk
  have e2 : (l.map (Value.int .u8))[i]? = some (.int .u8 (l.getD i 0)) := by
    rw [List.getElem?_map, List.getElem?_eq_getElem (by rw [hlen]; exact hi), List.getD_eq_getElem?_getD, List.getElem?_eq_getElem (by rw [hlen]; exact hi)]
    rfl
  rw [← Array.getElem?_toList, ← e2, ← htk, List.getElem?_take, if_pos hi]
theorem out_cells {w4 : World} {o1 o2 : Obj} {p z : Array Value} {T : TypeId} {i : Nat} {v : Value} (h : p[i]? = some v) : ((((w4.alloc o1).alloc o2).alloc (.cells (p ++ z) T)).drew).cell? ⟨w4.heap.size + 1 + 1, i, none⟩ = some v := by
  have hn := xb_new ((w4.alloc o1).alloc o2) (.cells (p ++ z) T)
  rw [World.size_alloc, World.size_alloc] at hn
  have hn2 : ((((w4.alloc o1).alloc o2).alloc (.cells (p ++ z) T)).drew).heap[w4.heap.size + 1 + 1]? = some (.cells (p ++ z) T (0, 0)) := hn
  rw [xb_cell hn2, Array.getElem?_append_left (Array.getElem?_eq_some_iff.1 h).1]
  exact h
theorem drop_cells {w : World} {g idx : Nat} {l : List Int} (h : ∀ i : Nat, i < l.length → w.cell? ⟨g, i, none⟩ = some (.int .u8 (l.getD i 0))) (i : Nat) (hi : i < l.length - idx) : w.cell? ((⟨g, idx, none⟩ : Addr).add i) = some (.int .u8 ((l.drop idx).getD i 0)) := by
  have e : (l.drop idx).getD i 0 = l.getD (idx + i) 0 := by simp [List.getD_eq_getElem?_getD, List.getElem?_drop]
  rw [e, ← h (idx + i) (by omega)]
  unfold Addr.add
  split
  · rename_i hz
    have hz' : i = 0 := by simpa using hz
    subst hz'
    rfl
  · rfl
theorem R_clone {w : World} {base : Nat} {v : Value} {n : Nat} {l : List Int} (h : w.ownsRow base 5 1 v n (l.map (Value.int .u8))) (hn : l.length = n) (b0 : Nat) (hb : b0 ≤ base) : Kd.R (Kd.int .u8) 5 w b0 (fun _ => True) v l := by
  subst hn
  exact Kd.R_lower (Kd.R_of_own h (fun _ _ => trivial)) hb
end Ses
set_option maxHeartbeats 4000000 in
set_option maxRecDepth 100000 in
theorem get_one (D : World → Value → Prop) (hD : ∀ W W' d, D W d → Below W.heap.size W W' → D W' d) (kind size : Int) (sb sc big : Bool) (l : List Int) (idx : Nat) (num : Int) (hl0 : 0 < l.length) (hlm : l.length ≤ 1000000) (hidx : idx ≤ l.length)
    (HGot : ∀ (W : World) (b g c : Nat), Ses.RS W b g c l 0 big 64 → Calls Tryd.prog 48 #[.pointer (some ⟨b, 0, none⟩), .agg #[.int .i64 kind, .int .i64 size, .bool sb, .bool sc]] W fun e w' => ∃ A n cc, e = .returned (.agg #[.bool true, .slice A n cc, .slice none 0 0, .int .i64 num, .string ⟨#[]⟩]) ∧ D w' (.slice A n cc) ∧ Ses.RS w' b g c l idx big 64 ∧ W.grownBy w' (some b))
    (w : World) (a : Addr) (cI g0 : Nat) (hin : ∀ i, i < l.length → w.cell? (a.add i) = some (.int .u8 (l.getD i 0))) (s0 : w.cell? ⟨g0, 0, none⟩ = some (.int .i64 kind)) (s1 : w.cell? ⟨g0, 1, none⟩ = some (.int .i64 size)) (s2 : w.cell? ⟨g0, 2, none⟩ = some (.bool sb)) (s3 : w.cell? ⟨g0, 3, none⟩ = some (.bool sc)) :
    Calls Tryd.prog 18 #[.slice (some a) l.length cI, .slice (some ⟨g0, 0, none⟩) 1 1, .bool big] w fun e w' => ∃ dA dn dc g2 c2 v2, e = .returned (.tuple #[.slice (some ⟨g2, 0, none⟩) 1 c2, v2]) ∧ (w'.cell? ⟨g2, 0, none⟩ = some (.bool true) ∧ w'.cell? ⟨g2, 1, none⟩ = some (.slice dA dn dc) ∧ w'.cell? ⟨g2, 3, none⟩ = some (.int .i64 num)) ∧ D w' (.slice dA dn dc) ∧ Kd.R (Kd.int .u8) 5 w' w.heap.size (fun _ => True) v2 (l.drop idx) ∧ Below w.heap.size w w' := by
  have HCl := Lib.hid (Tryd.bytes_Clone_at a l.length cI l w rfl (by omega) hin)
  have HS := Lib.hid (⟨s0, s1, s2, s3⟩ : w.cell? ⟨g0, 0, none⟩ = some (.int .i64 kind) ∧ w.cell? ⟨g0, 1, none⟩ = some (.int .i64 size) ∧ w.cell? ⟨g0, 2, none⟩ = some (.bool sb) ∧ w.cell? ⟨g0, 3, none⟩ = some (.bool sc))
  have HG := Lib.hid HGot
  have HDm := Lib.hid hD
  have hg0 := World.block_lt_of_cell? w _ s0
  clear s0 s1 s2 s3 hin HGot hD
  go_enter Tryd.func18, Tryd.ntmps18
  go_wp2_with (first | (go_at_call 17; (with_reducible refine HCl.out.mono ?_); rintro e w1 ⟨v1, rfl, hown, hne, hb⟩; obtain ⟨g, c, rfl, hbg, hgl, hnc, hll, hcells⟩ := Ses.row_form hown hne; have HB1 := Lib.hid hb; have HC := Lib.hid hcells; clear hown hne hb hcells) | (go_at_call 39; (with_reducible refine (newSession _ w1 ⟨_, _, _, rfl⟩).mono ?_); rintro e w2 ⟨rfl, rfl⟩))
  have HRS : Hid (Ses.RS (w1.alloc (.cells #[.slice (some ⟨g, 0, none⟩) l.length c, .slice none 0 0, .int .i64 0, .int .i8 0, .int .i64 0, .bool big, .int .i64 64] 82)) w1.heap.size g c l 0 big 64) := Lib.hid (by
    have hgb : g ≠ w1.heap.size := by omega
    exact ⟨xb_new _ _, hgb, hnc, fun i hi => cell_alloc _ (HC.out i hi), hlm, by rw [World.size_alloc]; omega⟩)
  have HBw : Hid (Below w1.heap.size w1 (w1.alloc (.cells #[.slice (some ⟨g, 0, none⟩) l.length c, .slice none 0 0, .int .i64 0, .int .i8 0, .int .i64 0, .bool big, .int .i64 64] 82))) := Lib.hid (below_alloc (Below.refl _ _) _)
  generalize (w1.alloc (.cells #[.slice (some ⟨g, 0, none⟩) l.length c, .slice none 0 0, .int .i64 0, .int .i8 0, .int .i64 0, .bool big, .int .i64 64] 82)) = w3 at *
  have hb3 := xb_lt HRS.out.blk
  have hz1 := HB1.out.size
  have hz3 := HBw.out.size
  have HS3 : Hid (∀ W, Below w1.heap.size w1 W → W.cell? ⟨g0, 0, none⟩ = some (.int .i64 kind) ∧ W.cell? ⟨g0, 1, none⟩ = some (.int .i64 size) ∧ W.cell? ⟨g0, 2, none⟩ = some (.bool sb) ∧ W.cell? ⟨g0, 3, none⟩ = some (.bool sc)) := Lib.hid (fun W hW => by
    obtain ⟨s0, s1, s2, s3⟩ := HS.out
    exact ⟨bl_cell hW (bl_cell HB1.out s0), bl_cell hW (bl_cell HB1.out s1), bl_cell hW (bl_cell HB1.out s2), bl_cell hW (bl_cell HB1.out s3)⟩)
  have HB3 := Lib.hid (HB1.out.trans (HBw.out.mono hz1))
  clear HC HS
  go_loopw [9, 22] (fun v9 v22 wr => (v22 = .int .i64 0 ∧ v9 = .slice none 0 0 ∧ wr = w3) ∨ (v22 = .int .i64 1 ∧ ∃ g2 c2, v9 = .slice (some ⟨g2, 0, none⟩) 1 c2 ∧ Hid (∃ dA dn dc, (wr.cell? ⟨g2, 0, none⟩ = some (.bool true) ∧ wr.cell? ⟨g2, 1, none⟩ = some (.slice dA dn dc) ∧ wr.cell? ⟨g2, 3, none⟩ = some (.int .i64 num)) ∧ D wr (.slice dA dn dc) ∧ Ses.RS wr w1.heap.size g c l idx big 64) ∧ Hid (Below w.heap.size w wr))) (fun _ v22 _ => 1 - (intOf v22).toNat)
  case atStart => exact .inl ⟨rfl, rfl, rfl⟩
  case round =>
    rcases hrel with ⟨rfl, rfl, rfl⟩ | ⟨rfl, g2, c2, rfl, HP, HBr⟩
    · obtain ⟨s0, s1, s2, s3⟩ := HS3.out _ HBw.out
      have HGc := Lib.hid (fun W hW => HG.out W w1.heap.size g c hW)
      go_wp2_with (first | (go_at_call 48; (with_reducible refine (HGc.out _ ?hrs).mono ?_); (case hrs => exact HRS.out.bl (below_alloc (Below.refl _ _) _)); rintro e w4 ⟨dA, dn, dc, rfl, hd, hrs, hg⟩; have HR4 := Lib.hid hrs; have HG4 := Lib.hid hg; have HD4 := Lib.hid hd; clear hrs hg hd))
      go_roundw
      case measure => simp [intOf]
      case rel =>
        have hB4 : Below w4.heap.size w4 (((w4.alloc (.cells #[.bool true, .slice dA dn dc, .slice none 0 0, .int .i64 num, .string ⟨#[]⟩] 38)).alloc (.cells #[.bool true, .slice dA dn dc, .slice none 0 0, .int .i64 num, .string ⟨#[]⟩] 38)).alloc (.cells (#[.bool true, .slice dA dn dc, .slice none 0 0, .int .i64 num, .string ⟨#[]⟩] ++ Builtin.zeroCells #[.bool false, .slice none 0 0, .slice none 0 0, .int .i64 0, .string ⟨#[]⟩] ((Question.appendCap 1 0 38).cut (w4.tape w4.drawn (Question.appendCap 1 0 38)) - 1)) 38)).drew := below_drew (below_alloc (below_alloc (below_alloc (Below.refl _ _) _) _) _)
        refine .inr ⟨rfl, _, _, rfl, Lib.hid ⟨dA, dn, dc, ?_, HDm.out _ _ _ HD4.out hB4, HR4.out.bl hB4⟩, Lib.hid ?_⟩
        · exact ⟨Ses.out_cells rfl, Ses.out_cells rfl, Ses.out_cells rfl⟩
        · exact (grown_below (HB3.out.alloc HB3.out.size _) HG4.out (HB3.out.alloc HB3.out.size _).size hz1).trans (hB4.mono (grown_below (HB3.out.alloc HB3.out.size _) HG4.out (HB3.out.alloc HB3.out.size _).size hz1).size)
    · obtain ⟨dA, dn, dc, hc, hd, hrs⟩ := HP.out
      have hre := rest_ok wr w1.heap.size g c l idx big 64 hrs hidx
      have HK := Lib.hid hc
      have HD := Lib.hid hd
      have HCe := Lib.hid hrs.cells
      by_cases hci : c = idx
      · rw [if_pos hci] at hre
        have HRe := Lib.hid hre
        have HC2 := Lib.hid (Tryd.bytes_Clone_at ⟨g, 0, none⟩ (l.length - idx) (c - idx) (l.drop idx) wr.drew (by rw [List.length_drop]) (by omega) (fun i hi => absurd hi (by omega)))
        clear hci hre hrs hc hd HP HRS HG HS3 HCl
        go_wp2_with (first | (go_at_call 49; (with_reducible refine HRe.out.mono ?_); rintro e w5 ⟨rfl, rfl⟩) | (go_at_call 17; (with_reducible refine HC2.out.mono ?_); rintro e w6 ⟨v6, rfl, hown, hne6, hb6⟩; have HO6 := Lib.hid hown; have HB6 := Lib.hid hb6; clear hown hne6 hb6))
        go_ret2
        have hB7 : Below wr.heap.size wr w6 := (below_drew (Below.refl _ _)).trans (HB6.out.mono (Nat.le_refl _))
        exact ⟨dA, dn, dc, g2, c2, v6, rfl, ⟨bl_cell hB7 HK.out.1, bl_cell hB7 HK.out.2.1, bl_cell hB7 HK.out.2.2⟩, HDm.out _ _ _ HD.out hB7, Ses.R_clone HO6.out (by rw [List.length_drop]) w.heap.size HBr.out.size, HBr.out.trans (hB7.mono HBr.out.size)⟩
      · rw [if_neg hci] at hre
        have HRe := Lib.hid hre
        have HC2 := Lib.hid (Tryd.bytes_Clone_at ⟨g, idx, none⟩ (l.length - idx) (c - idx) (l.drop idx) wr.drew (by rw [List.length_drop]) (by omega) (fun i hi => Ses.drop_cells HCe.out i hi))
        clear hre hrs hc hd HP HRS HG HS3 HCl
        go_wp2_with (first | (go_at_call 49; (with_reducible refine HRe.out.mono ?_); rintro e w5 ⟨rfl, rfl⟩) | (go_at_call 17; (with_reducible refine HC2.out.mono ?_); rintro e w6 ⟨v6, rfl, hown, hne6, hb6⟩; have HO6 := Lib.hid hown; have HB6 := Lib.hid hb6; clear hown hne6 hb6))
        go_ret2
        have hB7 : Below wr.heap.size wr w6 := (below_drew (Below.refl _ _)).trans (HB6.out.mono (Nat.le_refl _))
        exact ⟨dA, dn, dc, g2, c2, v6, rfl, ⟨bl_cell hB7 HK.out.1, bl_cell hB7 HK.out.2.1, bl_cell hB7 HK.out.2.2⟩, HDm.out _ _ _ HD.out hB7, Ses.R_clone HO6.out (by rw [List.length_drop]) w.heap.size HBr.out.size, HBr.out.trans (hB7.mono HBr.out.size)⟩
end Go.Proofs.YtdnahdddkagfhaaDoor.X
/- A short CLR is read: the buffer that holds it. -/
namespace Go.Proofs.YtdnahdddkagfhaaDoor.X
open Go.RowKit Go.Proofs.YtdnahdddkagfhaaDoorW.PrintWords Go.Proofs.YtdnahdddkagfhaaDoorW.PrintMore
attribute [local go_sem] setCell_drewN alloc_drewN
set_option linter.unusedVariables false
set_option linter.unusedSimpArgs false
theorem grown_blB {a w w' : World} {row : Option Nat} {B : Nat} (h : a.grownBy w row) (k : Below B w w') (hB : a.heap.size ≤ B) : a.grownBy w' row :=
  ⟨k.os.trans h.os, k.tape.trans h.tape, k.output.trans h.output, Nat.le_trans h.size k.size, fun i hi hr => (k.block i (by omega)).trans (h.block i hi hr)⟩
theorem Ses.RS.blB {w w' : World} {b g c B : Nat} {l : List Int} {idx : Nat} {big : Bool} {chunk : Int} (h : Ses.RS w b g c l idx big chunk) (k : Below B w w') (hb : b < B) (hg : g < B) : Ses.RS w' b g c l idx big chunk :=
  ⟨blk_bl h.blk k hb, h.ne, h.cap, fun i hi => (k.cell (p := ⟨g, i, none⟩) hg).trans (h.cells i hi), h.max, Nat.lt_of_lt_of_le h.lt k.size⟩
set_option maxHeartbeats 1000000 in
set_option maxRecDepth 100000 in
/-- (*bytes.Buffer).Bytes of a buffer that has only been written. -/
theorem bytes_ok (T : TypeId) (R : Nat → Option Value) (B b q : Nat) (xs : List Int) (w : World) (h : LibA.IsBuffer T R 5 B b q (xs.map (Value.int .u8)) w) (hx : 0 < xs.length) :
    Calls Tryd.prog 46 #[.pointer (some ⟨b, q, none⟩)] w fun e w' => ∃ g c, e = .returned (.slice (some ⟨g, 0, none⟩) xs.length c) ∧ B ≤ g ∧ g ≠ b ∧ xs.length ≤ c ∧ (∀ i : Nat, i < xs.length → w.cell? ⟨g, i, none⟩ = some (.int .u8 (xs.getD i 0))) ∧ w' = w.drew := by
  obtain ⟨hB, v, lr, hbk, ⟨hlen, hv⟩, hne⟩ := h
  rw [List.length_map] at hv
  rcases hv with ⟨_, hv⟩ | ⟨g, cap, cur, rfl, hBg, hg, hnc, hcm, hcs, htk⟩
  · omega
  have c0 := hbk.c0
  have c1 := hbk.c1
  have hcells : ∀ i : Nat, i < xs.length → w.cell? ⟨g, i, none⟩ = some (.int .u8 (xs.getD i 0)) := fun i hi => by
    rw [xb_cell hg]
    rw [Nat.mul_one] at htk
    have e2 : (xs.map (Value.int .u8))[i]? = some (.int .u8 (xs.getD i 0)) := by
      rw [List.getElem?_map, List.getElem?_eq_getElem hi, List.getD_eq_getElem?_getD, List.getElem?_eq_getElem hi]
      rfl
    rw [← Array.getElem?_toList, ← e2, ← htk, List.getElem?_take, if_pos hi]
  have HCe := Lib.hid hcells
  have hgb : g ≠ b := fun e => hne (by rw [e]; rfl)
  have HNe := Lib.hid hgb
  clear hbk hlen hne hg hcm hcs htk hcells hgb
  generalize hn : xs.length = n at *
  have p2 : (0 : Int) ≤ (n : Int) := by omega
  have p8 : (n : Int) ≤ (cap : Int) := by omega
  have q0 : (cap = 0) = False := eq_false (by omega)
  go_enter Tryd.func46, Tryd.ntmps46
  go_wp2
  go_region_held3 (fun w' => w'.cell? ⟨b, q, none⟩ = some (.slice (some ⟨g, 0, none⟩) n cap) ∧ w'.cell? ⟨b, q + 1, none⟩ = some (.int .i64 0)) (first | exact ⟨c0, c1⟩) (first | fail)
  go_wp2
  go_ret
  exact ⟨g, cap, rfl, hBg, HNe.out, hnc, HCe.out, rfl⟩
set_option maxHeartbeats 2000000 in
set_option maxRecDepth 100000 in
/-- A CLR of 1 to 252 bytes. -/
theorem getClr_short (w : World) (b g c : Nat) (l : List Int) (idx k : Nat) (big : Bool) (chunk : Int) (h : Ses.RS w b g c l idx big chunk) (hk0 : 0 < k) (hk1 : k ≤ 252) (hx : l.getD idx 0 = (k : Int)) (hk : idx + 1 + k ≤ l.length) (hbl : b < w.heap.size) :
    Calls Tryd.prog 70 #[.pointer (some ⟨b, 0, none⟩)] w fun e w' => ∃ gd cd, e = .returned (.tuple #[.slice (some ⟨gd, 0, none⟩) k cd, .nilIface]) ∧ w.heap.size ≤ gd ∧ gd < w'.heap.size ∧ k ≤ cd ∧ (∀ i : Nat, i < k → w'.cell? ⟨gd, i, none⟩ = some (.int .u8 (((l.drop (idx + 1)).take k).getD i 0))) ∧ Ses.RS w' b g c l (idx + 1 + k) big chunk ∧ w.grownBy w' (some b) := by
  have hgb := getByte_ok w b g c l idx big chunk h (by omega)
  rw [hx] at hgb
  have HR := Lib.hid hgb
  have HY := Lib.hid (fun W (hw : Ses.RS W b g c l (idx + 1) big chunk) => getBytes_ok W b g c l (idx + 1) k big chunk hw hk hk0)
  have hlk : ((l.drop (idx + 1)).take k).length = k := by rw [List.length_take, List.length_drop]; omega
  clear hgb hx
  have d0 : ((k : Int) == 0) = false := beq_eq_false_iff_ne.2 (by omega)
  have d1 : ((k : Int) == 255) = false := beq_eq_false_iff_ne.2 (by omega)
  have d2 : ((k : Int) == 253) = false := beq_eq_false_iff_ne.2 (by omega)
  have d3 : ((k : Int) == 254) = false := beq_eq_false_iff_ne.2 (by omega)
  obtain ⟨xs, hxs⟩ : ∃ xs, xs = (l.drop (idx + 1)).take k := ⟨_, rfl⟩
  rw [← hxs] at hlk ⊢
  have HXs := Lib.hid hxs
  have HLk := Lib.hid hlk
  have hg0 := h.lt
  have HIn : Hid (∀ W : World, Ses.RS W b g c l (idx + 1 + k) big chunk → ∀ j v, (xs.map (Value.int .u8))[j]? = some v → W.cell? ((⟨g, idx + 1, none⟩ : Addr).add j) = some v) := Lib.hid (fun W hW j v hv => by
    rw [List.getElem?_map] at hv
    have hj : j < xs.length := by
      by_cases hj : j < xs.length
      · exact hj
      · rw [List.getElem?_eq_none (by omega)] at hv
        cases hv
    have hd := Ses.drop_cells hW.cells (idx := idx + 1) j (by omega)
    rw [hd]
    rw [List.getElem?_eq_getElem hj] at hv
    have e : (l.drop (idx + 1)).getD j 0 = xs[j] := by
      simp only [hxs, List.getElem_take]
      rw [List.getD_eq_getElem?_getD, List.getElem?_eq_getElem]
      rfl
    rw [e]
    exact hv)
  have hone : ∀ v ∈ xs.map (Value.int .u8), v.oneCell' = true := fun v hv => by
    obtain ⟨x, _, rfl⟩ := List.mem_map.1 hv
    rfl
  have HOne := Lib.hid hone
  clear h hone hxs hlk
  go_enter Tryd.func70, Tryd.ntmps70
  go_wp2_with (first | (go_at_call 68; (with_reducible refine HR.out.mono ?_); rintro e w1 ⟨rfl, hrs, hg⟩; have HRS := Lib.hid hrs; have HG := Lib.hid hg; clear hrs hg) | (go_at_call 69; (with_reducible refine (HY.out _ ?hrs).mono ?_); (case hrs => exact HRS.out.bl (below_alloc (Below.refl _ _) _)); rintro e w2 ⟨rfl, hrs, hg⟩; have HRS2 := Lib.hid hrs; have HG2 := Lib.hid hg; clear hrs hg) | (go_at_call 58; (have hz1 := HG.out.size); (have hz2 := HG2.out.size); (have hbf := (HG2.out.block w1.heap.size (by rw [World.size_alloc]; exact Nat.lt_succ_self _) (fun e => by have := Option.some.inj e; omega)).trans (xb_new _ _)); (have hbuf := LibA.zero_isBuffer (e := 5) (Nat.le_refl w1.heap.size) (LibA.three_whole hbf)); (rw [World.size_alloc] at hz2); (have hwr := Tryd.Buffer_Write_at 80 (fun _ => none) w1.heap.size w1.heap.size 0 [] (xs.map (Value.int .u8)) ⟨g, idx + 1, none⟩ k (c - (idx + 1)) w2 hbuf (by omega) (by simp) (by rw [List.length_map]; exact HLk.out) (by show g ≠ _; omega) (HIn.out _ HRS2.out) HOne.out (by simp only [List.length_nil]; omega)); (with_reducible refine hwr.mono ?_); rintro e w3 ⟨rfl, hbuf3, hb3, -⟩; (rw [List.nil_append] at hbuf3); have HBuf := Lib.hid hbuf3; have HB3 := Lib.hid hb3; clear hwr hbuf hbf hbuf3 hb3) | (go_at_call 46; (with_reducible refine (bytes_ok 80 (fun _ => none) w1.heap.size w1.heap.size 0 xs w3 HBuf.out (by rw [HLk.out]; exact hk0)).mono ?_); rintro e w4 ⟨gd, cd, rfl, hgd, hgn, hcd, hcl, rfl⟩))
  go_ret2
  have hz := HG.out.size
  have hgd2 := World.block_lt_of_cell? w3 _ (hcl 0 (by rw [HLk.out]; exact hk0))
  exact ⟨gd, cd, congrArg (fun m => Ending.returned (.tuple #[.slice (some ⟨gd, 0, none⟩) m cd, .nilIface])) HLk.out, by omega, hgd2, by rw [← HLk.out]; exact hcd, fun i hi => hcl i (by rw [HLk.out]; exact hi), (HRS2.out.blB HB3.out (by omega) (by omega)).bl (below_drew (Below.refl _ _)), (grown_blB (grown_trans (grown_alloc HG.out _) HG2.out) HB3.out hz).drew⟩
end Go.Proofs.YtdnahdddkagfhaaDoor.X
/- impl.got: a step of a reader that gives bytes. -/
namespace Go.Proofs.YtdnahdddkagfhaaDoor.X
open Go.RowKit Go.Proofs.YtdnahdddkagfhaaDoorW.PrintWords Go.Proofs.YtdnahdddkagfhaaDoorW.PrintMore
attribute [local go_sem] setCell_drewN alloc_drewN
set_option linter.unusedVariables false
set_option linter.unusedSimpArgs false
theorem Ses.got_block2 {w1 : World} {n1 n2 : Nat} {a0 a1 a2 a3 a4 : Value} {T : TypeId} (hne : n1 ≠ n2) (k1 : w1.heap[n1]? = some (.cells #[a0, a1, a2, a3, a4] T (0, 0))) (u1 u2 v0 v1 v2 v3 v4 : Value) :
    (((((((w1.setCell ⟨n2, 1, none⟩ u1).setCell ⟨n2, 2, none⟩ u2).setCell ⟨n1, 0, none⟩ v0).setCell ⟨n1, 1, none⟩ v1).setCell ⟨n1, 2, none⟩ v2).setCell ⟨n1, 3, none⟩ v3).setCell ⟨n1, 4, none⟩ v4).heap[n1]? = some (.cells #[v0, v1, v2, v3, v4] T (0, 0)) := by
  have h0 := (blk_set_other (u := u2) (i := 2) hne).trans ((blk_set_other (u := u1) (i := 1) hne).trans k1)
  have h5 := xb_set (xb_set (xb_set (xb_set (xb_set h0 0 v0) 1 v1) 2 v2) 3 v3) 4 v4
  simpa using h5
/-- A value is a row of bytes. -/
def Ses.Data (xs : List Int) (W : World) (d : Value) : Prop := ∃ base, Kd.R (Kd.int .u8) 5 W base (fun _ => True) d xs
theorem Ses.Data_below (xs : List Int) (W W' : World) (d : Value) (h : Ses.Data xs W d) (k : Below W.heap.size W W') : Ses.Data xs W' d := by
  obtain ⟨base, h⟩ := h
  exact ⟨base, Kd.R_below h k⟩
set_option maxHeartbeats 4000000 in
set_option maxRecDepth 100000 in
theorem got_clr_short (w : World) (b g c : Nat) (l : List Int) (idx k : Nat) (big : Bool) (chunk : Int) (h : Ses.RS w b g c l idx big chunk) (hk0 : 0 < k) (hk1 : k ≤ 252) (hx : l.getD idx 0 = (k : Int)) (hk : idx + 1 + k ≤ l.length) :
    Calls Tryd.prog 48 #[.pointer (some ⟨b, 0, none⟩), .agg #[.int .i64 2, .int .i64 0, .bool false, .bool false]] w fun e w' => ∃ A n cc, e = .returned (.agg #[.bool true, .slice A n cc, .slice none 0 0, .int .i64 0, .string ⟨#[]⟩]) ∧ Ses.Data ((l.drop (idx + 1)).take k) w' (.slice A n cc) ∧ Ses.RS w' b g c l (idx + 1 + k) big chunk ∧ w.grownBy w' (some b) := by
  have hb := xb_lt h.blk
  have hg0 := h.lt
  have HR := Lib.hid (fun W (hw : Ses.RS W b g c l idx big chunk) hbW => getClr_short W b g c l idx k big chunk hw hk0 hk1 hx hk hbW)
  have hlk : ((l.drop (idx + 1)).take k).length = k := by rw [List.length_take, List.length_drop]; omega
  have HCn := Lib.hid (fun n c W => Tryd.bytes_Clone_nil n c W)
  have HH := Lib.hid (h.bl (Ses.W3_bl w 2 0 false false))
  have hz3 := Ses.W3_size w 2 0 false false
  have HLk := Lib.hid hlk
  generalize (l.drop (idx + 1)).take k = xs at *
  unfold Ses.W3 at HH hz3
  clear h hx hk hlk
  go_enter Tryd.func48, Tryd.ntmps48
  go_wp2_with (go_at_call 70; (with_reducible refine (HR.out _ HH.out (by omega)).mono ?_); rintro e w1 ⟨gd, cd, rfl, hgd, hgl, hcd, hcl, hrs, hg⟩; have HRS := Lib.hid hrs; have HG := Lib.hid (Ses.W3_grown (kind := 2) (size := 0) (big := false) (comp := false) hb hg); have HCl := Lib.hid hcl; have hk3 := Ses.G3_of (kind := 2) (size := 0) (big := false) (comp := false) hb hg; have x0 := xb_cell hk3.k0 0; have x1 := xb_cell hk3.k0 1; have x2 := xb_cell hk3.k0 2; have x3 := xb_cell hk3.k0 3; have y0 := xb_cell hk3.k2 0; have z0 := xb_cell hk3.k1 0; have fy0 := blk_free hk3.k2 0; have fz0 := blk_free hk3.k1 0; have y1 := xb_cell hk3.k2 1; have z1 := xb_cell hk3.k1 1; have fy1 := blk_free hk3.k2 1; have fz1 := blk_free hk3.k1 1; have y2 := xb_cell hk3.k2 2; have z2 := xb_cell hk3.k1 2; have fy2 := blk_free hk3.k2 2; have fz2 := blk_free hk3.k1 2; have y3 := xb_cell hk3.k2 3; have z3 := xb_cell hk3.k1 3; have fy3 := blk_free hk3.k2 3; have fz3 := blk_free hk3.k1 3; have y4 := xb_cell hk3.k2 4; have z4 := xb_cell hk3.k1 4; have fy4 := blk_free hk3.k2 4; have fz4 := blk_free hk3.k1 4; simp only [List.getElem?_toArray, List.getElem?_cons_zero, List.getElem?_cons_succ] at y0 z0 y1 z1 y2 z2 y3 z3 y4 z4; have K0 := Lib.hid hk3; simp only [List.getElem?_toArray, List.getElem?_cons_zero, List.getElem?_cons_succ] at x0 x1 x2 x3; clear hrs hg hk3 hcl)
  rw [hz3] at hgd
  have hX1 : Hid (((w1.setCell ⟨w.heap.size + 1 + 1, 1, none⟩ (.slice (some ⟨gd, 0, none⟩) k cd)).setCell ⟨w.heap.size + 1 + 1, 0, none⟩ (.bool true)).heap[w.heap.size + 1]? = some (.cells #[.bool false, .slice none 0 0, .slice none 0 0, .int .i64 0, .string ⟨#[]⟩] 38 (0, 0))) := Lib.hid ((blk_set_other (by omega)).trans ((blk_set_other (by omega)).trans K0.out.k1))
  have hX2 : Hid (((w1.setCell ⟨w.heap.size + 1 + 1, 1, none⟩ (.slice (some ⟨gd, 0, none⟩) k cd)).setCell ⟨w.heap.size + 1 + 1, 0, none⟩ (.bool true)).heap[w.heap.size + 1 + 1]? = some (.cells #[.bool true, .slice (some ⟨gd, 0, none⟩) k cd, .slice none 0 0, .int .i64 0, .string ⟨#[]⟩] 38 (0, 0))) := Lib.hid ((xb_set (xb_set K0.out.k2 1 _) 0 _).trans (by simp))
  have hXr : Hid (Ses.RS ((w1.setCell ⟨w.heap.size + 1 + 1, 1, none⟩ (.slice (some ⟨gd, 0, none⟩) k cd)).setCell ⟨w.heap.size + 1 + 1, 0, none⟩ (.bool true)) b g c l (idx + 1 + k) big chunk) := Lib.hid ((HRS.out.far _ (by omega) (by omega)).far _ (by omega) (by omega))
  have hXg : Hid (w.grownBy ((w1.setCell ⟨w.heap.size + 1 + 1, 1, none⟩ (.slice (some ⟨gd, 0, none⟩) k cd)).setCell ⟨w.heap.size + 1 + 1, 0, none⟩ (.bool true)) (some b)) := Lib.hid (grown_far (grown_far HG.out _ (by omega)) _ (by omega))
  have hXc : Hid (∀ i : Nat, i < k → ((w1.setCell ⟨w.heap.size + 1 + 1, 1, none⟩ (.slice (some ⟨gd, 0, none⟩) k cd)).setCell ⟨w.heap.size + 1 + 1, 0, none⟩ (.bool true)).cell? ⟨gd, i, none⟩ = some (.int .u8 (xs.getD i 0))) := Lib.hid (fun i hi => (set_far (by omega)).trans ((set_far (by omega)).trans (HCl.out i hi)))
  clear y0 z0 fy0 fz0 y1 z1 fy1 fz1 y2 z2 fy2 fz2 y3 z3 fy3 fz3 y4 z4 fy4 fz4 x0 x1 x2 x3
  generalize (w1.setCell ⟨w.heap.size + 1 + 1, 1, none⟩ (.slice (some ⟨gd, 0, none⟩) k cd)).setCell ⟨w.heap.size + 1 + 1, 0, none⟩ (.bool true) = w2 at *
  have hn1 := xb_lt hX1.out
  have hn2 := xb_lt hX2.out
  have K1 := hX1
  have K2 := hX2
  have y0 := xb_cell K2.out 0; have z0 := xb_cell K1.out 0; have fy0 := blk_free K2.out 0; have fz0 := blk_free K1.out 0; have y1 := xb_cell K2.out 1; have z1 := xb_cell K1.out 1; have fy1 := blk_free K2.out 1; have fz1 := blk_free K1.out 1; have y2 := xb_cell K2.out 2; have z2 := xb_cell K1.out 2; have fy2 := blk_free K2.out 2; have fz2 := blk_free K1.out 2; have y3 := xb_cell K2.out 3; have z3 := xb_cell K1.out 3; have fy3 := blk_free K2.out 3; have fz3 := blk_free K1.out 3; have y4 := xb_cell K2.out 4; have z4 := xb_cell K1.out 4; have fy4 := blk_free K2.out 4; have fz4 := blk_free K1.out 4; simp only [List.getElem?_toArray, List.getElem?_cons_zero, List.getElem?_cons_succ] at y0 z0 y1 z1 y2 z2 y3 z3 y4 z4
  have HCd := Lib.hid (Tryd.bytes_Clone_at ⟨gd, 0, none⟩ k cd xs w2.drew HLk.out (by omega) (fun i hi => by
    have := hXc.out i hi
    unfold Addr.add
    split
    · rename_i hz
      have hz' : i = 0 := by simpa using hz
      subst hz'
      exact this
    · simpa using this))
  refine wp_region_noPanic ?_
  refine wp_region_held_drew (S := fun _ => True) (by kernel_rfl) trivial (fun hHeld => ?_)
  refine wpAnyH_take (i := 0) (v := ?_) rfl (by kernel_rfl) (by kernel_rfl) (by kernel_rfl) (fun _ _ _ h => h) (Or.inl ⟨by rfl, ?_⟩) (by assumption) ?_
  rotate_left
  · intro w hSw
    go_simp
    try (with_reducible rfl)
  try simp only [Act.put, List.setIfInBounds_toArray, List.set_cons_zero, List.set_cons_succ]
  refine wpAnyH_take (i := 3) (v := ?_) rfl (by kernel_rfl) (by kernel_rfl) (by kernel_rfl) (fun _ _ _ h => h) (Or.inl ⟨by rfl, ?_⟩) (by assumption) ?_
  rotate_left
  · intro w hSw
    go_simp
    try (with_reducible rfl)
  try simp only [Act.put, List.setIfInBounds_toArray, List.set_cons_zero, List.set_cons_succ]
  refine wpAnyH_ready (rs := [1, 4]) (by kernel_rfl) (by simp) ?_
  refine AllReadyH.cons (o := _) rfl (fun K hK => ?_) ?_
  · go_simp
    refine hK.out _ _ trivial (fun hHeld => ?_)
    clear hK K
    try simp only [Act.put, List.setIfInBounds_toArray, List.set_cons_zero, List.set_cons_succ]
    refine wpAnyH_ready (rs := [2, 4]) (by kernel_rfl) (by simp) ?_
    refine AllReadyH.cons (o := _) rfl (fun K hK => ?_) ?_
    · go_simp
      go_at_call 17
      refine HCd.out.mono ?_
      rintro e w5 ⟨v5, rfl, hown, hne, hb⟩
      obtain ⟨g5, c5, rfl, hbg5, hgl5, hnc5, -, -⟩ := Ses.row_form hown hne
      have HO := Lib.hid hown; have HB5 := Lib.hid hb
      have h1 := (hb.block _ hn1).trans K1.out; have h2 := (hb.block _ hn2).trans K2.out
      clear y0 z0 fy0 fz0 y1 z1 fy1 fz1 y2 z2 fy2 fz2 y3 z3 fy3 fz3 y4 z4 fy4 fz4
      have y0 := xb_cell h2 0; have z0 := xb_cell h1 0; have fy0 := blk_free h2 0; have fz0 := blk_free h1 0; have y1 := xb_cell h2 1; have z1 := xb_cell h1 1; have fy1 := blk_free h2 1; have fz1 := blk_free h1 1; have y2 := xb_cell h2 2; have z2 := xb_cell h1 2; have fy2 := blk_free h2 2; have fz2 := blk_free h1 2; have y3 := xb_cell h2 3; have z3 := xb_cell h1 3; have fy3 := blk_free h2 3; have fz3 := blk_free h1 3; have y4 := xb_cell h2 4; have z4 := xb_cell h1 4; have fy4 := blk_free h2 4; have fz4 := blk_free h1 4; simp only [List.getElem?_toArray, List.getElem?_cons_zero, List.getElem?_cons_succ] at y0 z0 y1 z1 y2 z2 y3 z3 y4 z4
      have H1 := Lib.hid h1; have H2 := Lib.hid h2
      clear hown hne hb h1 h2
      go_wp2
      refine hK.out _ _ trivial (fun hHeld => ?_)
      clear hK K
      try simp only [Act.put, List.setIfInBounds_toArray, List.set_cons_zero, List.set_cons_succ]
      refine wpAnyH_ready (rs := [4]) (by kernel_rfl) (by simp) ?_
      refine AllReadyH.cons (o := _) rfl (fun K hK => ?_) ?_
      · go_simp
        refine hK.out _ _ trivial (fun hHeld => ?_)
        clear hK K
        try simp only [Act.put, List.setIfInBounds_toArray, List.set_cons_zero, List.set_cons_succ]
        refine wpAnyH_take (i := 6) (v := ?_) rfl (by kernel_rfl) (by kernel_rfl) (by kernel_rfl) (fun _ _ _ h => h) (Or.inl ⟨by rfl, ?_⟩) (by assumption) ?_
        rotate_left
        · intro w hSw
          go_simp
          try (with_reducible rfl)
        try simp only [Act.put, List.setIfInBounds_toArray, List.set_cons_zero, List.set_cons_succ]
        refine wpAnyH_ready (rs := [5]) (by kernel_rfl) (by simp) ?_
        refine AllReadyH.cons (o := _) rfl (fun K hK => ?_) ?_
        · go_simp
          go_at_call 17
          refine (HCn.out _ _ _).mono ?_
          rintro e w6 ⟨rfl, rfl⟩
          go_wp2
          refine hK.out _ _ trivial (fun hHeld => ?_)
          clear hK K
          try simp only [Act.put, List.setIfInBounds_toArray, List.set_cons_zero, List.set_cons_succ]
          refine wpAnyH_ready (rs := [7]) (by kernel_rfl) (by simp) ?_
          refine AllReadyH.cons (o := _) rfl (fun K hK => ?_) ?_
          · go_simp
            refine hK.out _ _ trivial (fun hHeld => ?_)
            clear hK K
            try simp only [Act.put, List.setIfInBounds_toArray, List.set_cons_zero, List.set_cons_succ]
            refine wpAnyH_take (i := 8) (v := ?_) rfl (by kernel_rfl) (by kernel_rfl) (by kernel_rfl) (fun _ _ _ h => h) (Or.inl ⟨by rfl, ?_⟩) (by assumption) ?_
            rotate_left
            · intro w hSw
              go_simp
              try (with_reducible rfl)
            try simp only [Act.put, List.setIfInBounds_toArray, List.set_cons_zero, List.set_cons_succ]
            refine wpAnyH_ready (rs := [9]) (by kernel_rfl) (by simp) ?_
            refine AllReadyH.cons (o := _) rfl (fun K hK => ?_) ?_
            · go_simp
              refine hK.out _ _ trivial (fun hHeld => ?_)
              clear hK K
              try simp only [Act.put, List.setIfInBounds_toArray, List.set_cons_zero, List.set_cons_succ]
              refine wpAnyH_done (by kernel_rfl) ?_ _
              refine NoPanic.normal ?_
              go_wp2
              refine bodyPost_ret (results_cell_row rfl _ _ (w.heap.size + 1) 38 #[.bool true, .slice (some ⟨g5, 0, none⟩) k c5, .slice none 0 0, .int .i64 0, .string ⟨#[]⟩] (0, 0) _ rfl ?_ Tryd.underlying38 rfl (by kernel_rfl)) rfl ?_
              · exact Ses.got_block2 (by omega) H1.out _ _ _ _ _ _ _
              · have hB : Below w2.heap.size w2 w6 := (below_drew (Below.refl _ _)).trans (HB5.out.mono (Nat.le_refl _))
                refine ⟨_, _, _, rfl, ⟨0, ?_⟩, ?_, ?_⟩
                · have hr := Kd.R_reok (ok := fun j => j ≠ w.heap.size + 1 ∧ j ≠ w.heap.size + 1 + 1) rfl (Ses.R_clone HO.out HLk.out 0 (Nat.zero_le _)) (fun j hj => by
                    have hj' : g5 = j := Option.some.inj hj
                    subst hj'
                    have : w2.heap.size ≤ g5 := hbg5
                    omega)
                  refine Kd.R_mono ?_ (fun _ _ => trivial) (ok := fun j => j ≠ w.heap.size + 1 ∧ j ≠ w.heap.size + 1 + 1)
                  iterate 5 refine Kd.R_far ?_ (fun j hj => hj.1) _
                  iterate 2 refine Kd.R_far ?_ (fun j hj => hj.2) _
                  exact hr
                · iterate 7 refine Ses.RS.far ?_ _ (by omega) (by omega)
                  exact hXr.out.bl hB
                · iterate 7 refine grown_far ?_ _ (by omega)
                  exact grown_bl hXg.out hB
            exact AllReadyH.nil
          exact AllReadyH.nil
        exact AllReadyH.nil
      exact AllReadyH.nil
    refine AllReadyH.cons (o := _) rfl (fun K hK => ?_) ?_
    · go_simp
      refine hK.out _ _ trivial (fun hHeld => ?_)
      clear hK K
      try simp only [Act.put, List.setIfInBounds_toArray, List.set_cons_zero, List.set_cons_succ]
      refine wpAnyH_ready (rs := [2]) (by kernel_rfl) (by simp) ?_
      refine AllReadyH.cons (o := _) rfl (fun K hK => ?_) ?_
      · go_simp
        go_at_call 17
        refine HCd.out.mono ?_
        rintro e w5 ⟨v5, rfl, hown, hne, hb⟩
        obtain ⟨g5, c5, rfl, hbg5, hgl5, hnc5, -, -⟩ := Ses.row_form hown hne
        have HO := Lib.hid hown; have HB5 := Lib.hid hb
        have h1 := (hb.block _ hn1).trans K1.out; have h2 := (hb.block _ hn2).trans K2.out
        clear y0 z0 fy0 fz0 y1 z1 fy1 fz1 y2 z2 fy2 fz2 y3 z3 fy3 fz3 y4 z4 fy4 fz4
        have y0 := xb_cell h2 0; have z0 := xb_cell h1 0; have fy0 := blk_free h2 0; have fz0 := blk_free h1 0; have y1 := xb_cell h2 1; have z1 := xb_cell h1 1; have fy1 := blk_free h2 1; have fz1 := blk_free h1 1; have y2 := xb_cell h2 2; have z2 := xb_cell h1 2; have fy2 := blk_free h2 2; have fz2 := blk_free h1 2; have y3 := xb_cell h2 3; have z3 := xb_cell h1 3; have fy3 := blk_free h2 3; have fz3 := blk_free h1 3; have y4 := xb_cell h2 4; have z4 := xb_cell h1 4; have fy4 := blk_free h2 4; have fz4 := blk_free h1 4; simp only [List.getElem?_toArray, List.getElem?_cons_zero, List.getElem?_cons_succ] at y0 z0 y1 z1 y2 z2 y3 z3 y4 z4
        have H1 := Lib.hid h1; have H2 := Lib.hid h2
        clear hown hne hb h1 h2
        go_wp2
        refine hK.out _ _ trivial (fun hHeld => ?_)
        clear hK K
        try simp only [Act.put, List.setIfInBounds_toArray, List.set_cons_zero, List.set_cons_succ]
        refine wpAnyH_take (i := 6) (v := ?_) rfl (by kernel_rfl) (by kernel_rfl) (by kernel_rfl) (fun _ _ _ h => h) (Or.inl ⟨by rfl, ?_⟩) (by assumption) ?_
        rotate_left
        · intro w hSw
          go_simp
          try (with_reducible rfl)
        try simp only [Act.put, List.setIfInBounds_toArray, List.set_cons_zero, List.set_cons_succ]
        refine wpAnyH_ready (rs := [5]) (by kernel_rfl) (by simp) ?_
        refine AllReadyH.cons (o := _) rfl (fun K hK => ?_) ?_
        · go_simp
          go_at_call 17
          refine (HCn.out _ _ _).mono ?_
          rintro e w6 ⟨rfl, rfl⟩
          go_wp2
          refine hK.out _ _ trivial (fun hHeld => ?_)
          clear hK K
          try simp only [Act.put, List.setIfInBounds_toArray, List.set_cons_zero, List.set_cons_succ]
          refine wpAnyH_ready (rs := [7]) (by kernel_rfl) (by simp) ?_
          refine AllReadyH.cons (o := _) rfl (fun K hK => ?_) ?_
          · go_simp
            refine hK.out _ _ trivial (fun hHeld => ?_)
            clear hK K
            try simp only [Act.put, List.setIfInBounds_toArray, List.set_cons_zero, List.set_cons_succ]
            refine wpAnyH_take (i := 8) (v := ?_) rfl (by kernel_rfl) (by kernel_rfl) (by kernel_rfl) (fun _ _ _ h => h) (Or.inl ⟨by rfl, ?_⟩) (by assumption) ?_
            rotate_left
            · intro w hSw
              go_simp
              try (with_reducible rfl)
            try simp only [Act.put, List.setIfInBounds_toArray, List.set_cons_zero, List.set_cons_succ]
            refine wpAnyH_ready (rs := [9]) (by kernel_rfl) (by simp) ?_
            refine AllReadyH.cons (o := _) rfl (fun K hK => ?_) ?_
            · go_simp
              refine hK.out _ _ trivial (fun hHeld => ?_)
              clear hK K
              try simp only [Act.put, List.setIfInBounds_toArray, List.set_cons_zero, List.set_cons_succ]
              refine wpAnyH_done (by kernel_rfl) ?_ _
              refine NoPanic.normal ?_
              go_wp2
              refine bodyPost_ret (results_cell_row rfl _ _ (w.heap.size + 1) 38 #[.bool true, .slice (some ⟨g5, 0, none⟩) k c5, .slice none 0 0, .int .i64 0, .string ⟨#[]⟩] (0, 0) _ rfl ?_ Tryd.underlying38 rfl (by kernel_rfl)) rfl ?_
              · exact Ses.got_block2 (by omega) H1.out _ _ _ _ _ _ _
              · have hB : Below w2.heap.size w2 w6 := (below_drew (Below.refl _ _)).trans (HB5.out.mono (Nat.le_refl _))
                refine ⟨_, _, _, rfl, ⟨0, ?_⟩, ?_, ?_⟩
                · have hr := Kd.R_reok (ok := fun j => j ≠ w.heap.size + 1 ∧ j ≠ w.heap.size + 1 + 1) rfl (Ses.R_clone HO.out HLk.out 0 (Nat.zero_le _)) (fun j hj => by
                    have hj' : g5 = j := Option.some.inj hj
                    subst hj'
                    have : w2.heap.size ≤ g5 := hbg5
                    omega)
                  refine Kd.R_mono ?_ (fun _ _ => trivial) (ok := fun j => j ≠ w.heap.size + 1 ∧ j ≠ w.heap.size + 1 + 1)
                  iterate 5 refine Kd.R_far ?_ (fun j hj => hj.1) _
                  iterate 2 refine Kd.R_far ?_ (fun j hj => hj.2) _
                  exact hr
                · iterate 7 refine Ses.RS.far ?_ _ (by omega) (by omega)
                  exact hXr.out.bl hB
                · iterate 7 refine grown_far ?_ _ (by omega)
                  exact grown_bl hXg.out hB
            exact AllReadyH.nil
          exact AllReadyH.nil
        exact AllReadyH.nil
      exact AllReadyH.nil
    exact AllReadyH.nil
  refine AllReadyH.cons (o := _) rfl (fun K hK => ?_) ?_
  · go_simp
    refine hK.out _ _ trivial (fun hHeld => ?_)
    clear hK K
    try simp only [Act.put, List.setIfInBounds_toArray, List.set_cons_zero, List.set_cons_succ]
    refine wpAnyH_ready (rs := [1]) (by kernel_rfl) (by simp) ?_
    refine AllReadyH.cons (o := _) rfl (fun K hK => ?_) ?_
    · go_simp
      refine hK.out _ _ trivial (fun hHeld => ?_)
      clear hK K
      try simp only [Act.put, List.setIfInBounds_toArray, List.set_cons_zero, List.set_cons_succ]
      refine wpAnyH_ready (rs := [2]) (by kernel_rfl) (by simp) ?_
      refine AllReadyH.cons (o := _) rfl (fun K hK => ?_) ?_
      · go_simp
        go_at_call 17
        refine HCd.out.mono ?_
        rintro e w5 ⟨v5, rfl, hown, hne, hb⟩
        obtain ⟨g5, c5, rfl, hbg5, hgl5, hnc5, -, -⟩ := Ses.row_form hown hne
        have HO := Lib.hid hown; have HB5 := Lib.hid hb
        have h1 := (hb.block _ hn1).trans K1.out; have h2 := (hb.block _ hn2).trans K2.out
        clear y0 z0 fy0 fz0 y1 z1 fy1 fz1 y2 z2 fy2 fz2 y3 z3 fy3 fz3 y4 z4 fy4 fz4
        have y0 := xb_cell h2 0; have z0 := xb_cell h1 0; have fy0 := blk_free h2 0; have fz0 := blk_free h1 0; have y1 := xb_cell h2 1; have z1 := xb_cell h1 1; have fy1 := blk_free h2 1; have fz1 := blk_free h1 1; have y2 := xb_cell h2 2; have z2 := xb_cell h1 2; have fy2 := blk_free h2 2; have fz2 := blk_free h1 2; have y3 := xb_cell h2 3; have z3 := xb_cell h1 3; have fy3 := blk_free h2 3; have fz3 := blk_free h1 3; have y4 := xb_cell h2 4; have z4 := xb_cell h1 4; have fy4 := blk_free h2 4; have fz4 := blk_free h1 4; simp only [List.getElem?_toArray, List.getElem?_cons_zero, List.getElem?_cons_succ] at y0 z0 y1 z1 y2 z2 y3 z3 y4 z4
        have H1 := Lib.hid h1; have H2 := Lib.hid h2
        clear hown hne hb h1 h2
        go_wp2
        refine hK.out _ _ trivial (fun hHeld => ?_)
        clear hK K
        try simp only [Act.put, List.setIfInBounds_toArray, List.set_cons_zero, List.set_cons_succ]
        refine wpAnyH_take (i := 6) (v := ?_) rfl (by kernel_rfl) (by kernel_rfl) (by kernel_rfl) (fun _ _ _ h => h) (Or.inl ⟨by rfl, ?_⟩) (by assumption) ?_
        rotate_left
        · intro w hSw
          go_simp
          try (with_reducible rfl)
        try simp only [Act.put, List.setIfInBounds_toArray, List.set_cons_zero, List.set_cons_succ]
        refine wpAnyH_ready (rs := [5]) (by kernel_rfl) (by simp) ?_
        refine AllReadyH.cons (o := _) rfl (fun K hK => ?_) ?_
        · go_simp
          go_at_call 17
          refine (HCn.out _ _ _).mono ?_
          rintro e w6 ⟨rfl, rfl⟩
          go_wp2
          refine hK.out _ _ trivial (fun hHeld => ?_)
          clear hK K
          try simp only [Act.put, List.setIfInBounds_toArray, List.set_cons_zero, List.set_cons_succ]
          refine wpAnyH_ready (rs := [7]) (by kernel_rfl) (by simp) ?_
          refine AllReadyH.cons (o := _) rfl (fun K hK => ?_) ?_
          · go_simp
            refine hK.out _ _ trivial (fun hHeld => ?_)
            clear hK K
            try simp only [Act.put, List.setIfInBounds_toArray, List.set_cons_zero, List.set_cons_succ]
            refine wpAnyH_take (i := 8) (v := ?_) rfl (by kernel_rfl) (by kernel_rfl) (by kernel_rfl) (fun _ _ _ h => h) (Or.inl ⟨by rfl, ?_⟩) (by assumption) ?_
            rotate_left
            · intro w hSw
              go_simp
              try (with_reducible rfl)
            try simp only [Act.put, List.setIfInBounds_toArray, List.set_cons_zero, List.set_cons_succ]
            refine wpAnyH_ready (rs := [9]) (by kernel_rfl) (by simp) ?_
            refine AllReadyH.cons (o := _) rfl (fun K hK => ?_) ?_
            · go_simp
              refine hK.out _ _ trivial (fun hHeld => ?_)
              clear hK K
              try simp only [Act.put, List.setIfInBounds_toArray, List.set_cons_zero, List.set_cons_succ]
              refine wpAnyH_done (by kernel_rfl) ?_ _
              refine NoPanic.normal ?_
              go_wp2
              refine bodyPost_ret (results_cell_row rfl _ _ (w.heap.size + 1) 38 #[.bool true, .slice (some ⟨g5, 0, none⟩) k c5, .slice none 0 0, .int .i64 0, .string ⟨#[]⟩] (0, 0) _ rfl ?_ Tryd.underlying38 rfl (by kernel_rfl)) rfl ?_
              · exact Ses.got_block2 (by omega) H1.out _ _ _ _ _ _ _
              · have hB : Below w2.heap.size w2 w6 := (below_drew (Below.refl _ _)).trans (HB5.out.mono (Nat.le_refl _))
                refine ⟨_, _, _, rfl, ⟨0, ?_⟩, ?_, ?_⟩
                · have hr := Kd.R_reok (ok := fun j => j ≠ w.heap.size + 1 ∧ j ≠ w.heap.size + 1 + 1) rfl (Ses.R_clone HO.out HLk.out 0 (Nat.zero_le _)) (fun j hj => by
                    have hj' : g5 = j := Option.some.inj hj
                    subst hj'
                    have : w2.heap.size ≤ g5 := hbg5
                    omega)
                  refine Kd.R_mono ?_ (fun _ _ => trivial) (ok := fun j => j ≠ w.heap.size + 1 ∧ j ≠ w.heap.size + 1 + 1)
                  iterate 5 refine Kd.R_far ?_ (fun j hj => hj.1) _
                  iterate 2 refine Kd.R_far ?_ (fun j hj => hj.2) _
                  exact hr
                · iterate 7 refine Ses.RS.far ?_ _ (by omega) (by omega)
                  exact hXr.out.bl hB
                · iterate 7 refine grown_far ?_ _ (by omega)
                  exact grown_bl hXg.out hB
            exact AllReadyH.nil
          exact AllReadyH.nil
        exact AllReadyH.nil
      exact AllReadyH.nil
    exact AllReadyH.nil
  exact AllReadyH.nil
end Go.Proofs.YtdnahdddkagfhaaDoor.X
/- impl.got of a reader of bytes, over any contract of the reader. -/
namespace Go.Proofs.YtdnahdddkagfhaaDoor.X
open Go.RowKit Go.Proofs.YtdnahdddkagfhaaDoorW.PrintWords Go.Proofs.YtdnahdddkagfhaaDoorW.PrintMore
attribute [local go_sem] setCell_drewN alloc_drewN
set_option linter.unusedVariables false
set_option linter.unusedSimpArgs false
/-- A value is a row of bytes, of blocks from base on. -/
def Ses.DataB (base : Nat) (xs : List Int) (W : World) (d : Value) : Prop := Kd.R (Kd.int .u8) 5 W base (fun _ => True) d xs
theorem Ses.DataB_far {base : Nat} {xs : List Int} {W : World} {d : Value} (h : Ses.DataB base xs W d) {p : Addr} (hp : ∀ k, d.ownBlock = some k → k ≠ p.block) (u : Value) : Ses.DataB base xs (W.setCell p u) d := by
  have hr := Kd.R_reok (ok := fun j => j ≠ p.block) rfl h hp
  exact Kd.R_mono (Kd.R_far hr (fun k hk => hk) u) (fun _ _ => trivial)
/-- What a step of a reader that goes well leaves. -/
def Ses.GotP (b g c : Nat) (l : List Int) (idx' : Nat) (big : Bool) (chunk : Int) (d1 d2 : List Int) (num : Int) (w : World) (e : Ending) (w' : World) : Prop :=
  ∃ A n cc A' n' cc', e = .returned (.agg #[.bool true, .slice A n cc, .slice A' n' cc', .int .i64 num, .string ⟨#[]⟩]) ∧ Ses.DataB w.heap.size d1 w' (.slice A n cc) ∧ Ses.DataB w.heap.size d2 w' (.slice A' n' cc') ∧ Ses.RS w' b g c l idx' big chunk ∧ w.grownBy w' (some b)
/-- What a reader of bytes that goes well leaves: its bytes lie in the input, or in a new block. -/
def Ses.RdP (b g c : Nat) (l : List Int) (idx' : Nat) (big : Bool) (chunk : Int) (d : List Int) (B : Nat) (w : World) (e : Ending) (w' : World) : Prop :=
  ∃ A cc, e = .returned (.tuple #[.slice A d.length cc, .nilIface]) ∧ Kd.C (Kd.int .u8) w' A d.length d ∧ (∀ a, A = some a → a.block < B ∨ w.heap.size ≤ a.block) ∧ Ses.RS w' b g c l idx' big chunk ∧ w.grownBy w' (some b) ∧ d.length ≤ cc
theorem C_far {A : Option Addr} {xs : List Int} {W : World} {p : Addr} {u : Value} (h : Kd.C (Kd.int .u8) W A xs.length xs) (hp : ∀ a, A = some a → a.block ≠ p.block) : Kd.C (Kd.int .u8) (W.setCell p u) A xs.length xs := by
  by_cases hn : 0 < xs.length
  · obtain ⟨g0, o, rfl, hlt, hc⟩ := C_base h hn
    exact C_of h.2.1 (fun i hi => (World.cell?_of_block (a := ⟨g0, o + i, none⟩) (Below.heap_setCell W p u g0 (hp _ rfl))).trans (hc i hi))
  · exact ⟨rfl, h.2.1, fun h0 => absurd h0 hn⟩
set_option maxHeartbeats 8000000 in
set_option maxRecDepth 100000 in
/-- A CLR. -/
theorem got_clr (w : World) (b g c : Nat) (l : List Int) (idx idx' : Nat) (big : Bool) (chunk size : Int) (sb sc : Bool) (d1 : List Int) (h : Ses.RS w b g c l idx big chunk) (hsz : 0 ≤ size) (hd : d1.length ≤ 1000000)
    (hf : ∀ W, Ses.RS W b g c l idx big chunk → w.heap.size ≤ W.heap.size → Calls Tryd.prog 70 #[.pointer (some ⟨b, 0, none⟩)] W (Ses.RdP b g c l idx' big chunk d1 w.heap.size W)) :
    Calls Tryd.prog 48 #[.pointer (some ⟨b, 0, none⟩), .agg #[.int .i64 2, .int .i64 size, .bool sb, .bool sc]] w (Ses.GotP b g c l idx' big chunk d1 [] 0 w) := by
  have hb := xb_lt h.blk
  have hg0 := h.lt
  obtain ⟨d2, hd2⟩ : ∃ d2 : List Int, d2 = [] := ⟨_, rfl⟩
  rw [← hd2]
  have hl2 : d2.length ≤ 1000000 := by rw [hd2]; simp
  have HR := Lib.hid hf
  have HH := Lib.hid (h.bl (Ses.W3_bl w 2 size sb sc))
  have hz3 := Ses.W3_size w 2 size sb sc
  obtain ⟨n1, hn1'⟩ : ∃ n1, n1 = d1.length := ⟨_, rfl⟩
  have HN1 := Lib.hid hn1'
  have HD2 := Lib.hid hd2
  have HLd := Lib.hid (And.intro hd hl2)
  have tneg : decide (size < 0) = false := decide_eq_false (by omega)
  unfold Ses.W3 at HH hz3
  clear h hf hn1' hd2 hd hl2 hsz
  go_enter Tryd.func48, Tryd.ntmps48
  go_wp2_with (first | (go_at_call 70; (with_reducible refine (HR.out _ ?hrs ?hsz).mono ?_); (case hrs => exact HH.out); (case hsz => omega); rintro e w1 ⟨A1, c1, rfl, hC, hab, hrs, hg, -⟩; (rw [← HN1.out]); have HRS := Lib.hid hrs; have HG := Lib.hid (Ses.W3_grown (kind := 2) (size := size) (big := sb) (comp := sc) hb hg); have HCl := Lib.hid hC; have HAb := Lib.hid hab; have hk3 := Ses.G3_of (kind := 2) (size := size) (big := sb) (comp := sc) hb hg; have x0 := xb_cell hk3.k0 0; have x1 := xb_cell hk3.k0 1; have x2 := xb_cell hk3.k0 2; have x3 := xb_cell hk3.k0 3; have y0 := xb_cell hk3.k2 0; have z0 := xb_cell hk3.k1 0; have fy0 := blk_free hk3.k2 0; have fz0 := blk_free hk3.k1 0; have y1 := xb_cell hk3.k2 1; have z1 := xb_cell hk3.k1 1; have fy1 := blk_free hk3.k2 1; have fz1 := blk_free hk3.k1 1; have y2 := xb_cell hk3.k2 2; have z2 := xb_cell hk3.k1 2; have fy2 := blk_free hk3.k2 2; have fz2 := blk_free hk3.k1 2; have y3 := xb_cell hk3.k2 3; have z3 := xb_cell hk3.k1 3; have fy3 := blk_free hk3.k2 3; have fz3 := blk_free hk3.k1 3; have y4 := xb_cell hk3.k2 4; have z4 := xb_cell hk3.k1 4; have fy4 := blk_free hk3.k2 4; have fz4 := blk_free hk3.k1 4; simp only [List.getElem?_toArray, List.getElem?_cons_zero, List.getElem?_cons_succ] at y0 z0 y1 z1 y2 z2 y3 z3 y4 z4; have K0 := Lib.hid hk3; simp only [List.getElem?_toArray, List.getElem?_cons_zero, List.getElem?_cons_succ] at x0 x1 x2 x3; clear hrs hg hk3 hC hab))
  have hab1 : ∀ a, A1 = some a → a.block ≠ w.heap.size + 1 + 1 := fun a ha => by
    have := HAb.out a ha
    rw [hz3] at this
    omega
  have hX1 : Hid (((w1.setCell ⟨w.heap.size + 1 + 1, 1, none⟩ (.slice A1 n1 c1)).setCell ⟨w.heap.size + 1 + 1, 0, none⟩ (.bool true)).heap[w.heap.size + 1]? = some (.cells #[.bool false, .slice none 0 0, .slice none 0 0, .int .i64 0, .string ⟨#[]⟩] 38 (0, 0))) := Lib.hid ((blk_set_other (by omega)).trans ((blk_set_other (by omega)).trans K0.out.k1))
  have hX2 : Hid (((w1.setCell ⟨w.heap.size + 1 + 1, 1, none⟩ (.slice A1 n1 c1)).setCell ⟨w.heap.size + 1 + 1, 0, none⟩ (.bool true)).heap[w.heap.size + 1 + 1]? = some (.cells #[.bool true, .slice A1 n1 c1, .slice none 0 0, .int .i64 0, .string ⟨#[]⟩] 38 (0, 0))) := Lib.hid ((xb_set (xb_set K0.out.k2 1 _) 0 _).trans (by simp))
  have hXr : Hid (Ses.RS ((w1.setCell ⟨w.heap.size + 1 + 1, 1, none⟩ (.slice A1 n1 c1)).setCell ⟨w.heap.size + 1 + 1, 0, none⟩ (.bool true)) b g c l idx' big chunk) := Lib.hid ((HRS.out.far _ (by omega) (by omega)).far _ (by omega) (by omega))
  have hXg : Hid (w.grownBy ((w1.setCell ⟨w.heap.size + 1 + 1, 1, none⟩ (.slice A1 n1 c1)).setCell ⟨w.heap.size + 1 + 1, 0, none⟩ (.bool true)) (some b)) := Lib.hid (grown_far (grown_far HG.out _ (by omega)) _ (by omega))
  have hXc : Hid (Kd.C (Kd.int .u8) ((w1.setCell ⟨w.heap.size + 1 + 1, 1, none⟩ (.slice A1 n1 c1)).setCell ⟨w.heap.size + 1 + 1, 0, none⟩ (.bool true)) A1 d1.length d1) := Lib.hid (C_far (C_far HCl.out hab1) hab1)
  clear y0 z0 fy0 fz0 y1 z1 fy1 fz1 y2 z2 fy2 fz2 y3 z3 fy3 fz3 y4 z4 fy4 fz4 x0 x1 x2 x3 hab1
  generalize ((w1.setCell ⟨w.heap.size + 1 + 1, 1, none⟩ (.slice A1 n1 c1)).setCell ⟨w.heap.size + 1 + 1, 0, none⟩ (.bool true)) = w2 at *
  have hn1 := xb_lt hX1.out
  have hn2 := xb_lt hX2.out
  have K1 := hX1
  have K2 := hX2
  have y0 := xb_cell K2.out 0; have z0 := xb_cell K1.out 0; have fy0 := blk_free K2.out 0; have fz0 := blk_free K1.out 0; have y1 := xb_cell K2.out 1; have z1 := xb_cell K1.out 1; have fy1 := blk_free K2.out 1; have fz1 := blk_free K1.out 1; have y2 := xb_cell K2.out 2; have z2 := xb_cell K1.out 2; have fy2 := blk_free K2.out 2; have fz2 := blk_free K1.out 2; have y3 := xb_cell K2.out 3; have z3 := xb_cell K1.out 3; have fy3 := blk_free K2.out 3; have fz3 := blk_free K1.out 3; have y4 := xb_cell K2.out 4; have z4 := xb_cell K1.out 4; have fy4 := blk_free K2.out 4; have fz4 := blk_free K1.out 4; simp only [List.getElem?_toArray, List.getElem?_cons_zero, List.getElem?_cons_succ] at y0 z0 y1 z1 y2 z2 y3 z3 y4 z4
  have HC1 : Hid (∀ W : World, Below w2.heap.size w2 W → Calls Tryd.prog 17 #[.slice A1 n1 c1] W fun e w' => ∃ v, e = .returned v ∧ Kd.R (Kd.int .u8) 5 w' W.heap.size (fun _ => True) v d1 ∧ Below W.heap.size W w') := Lib.hid (fun W hW => by
    have h := clone_any A1 c1 d1 W (Kd.C_below hXc.out hW) (by have := HLd.out.1; omega)
    rw [← HN1.out] at h
    exact h)
  have HC2 : Hid (∀ W : World, Below w2.heap.size w2 W → Calls Tryd.prog 17 #[.slice none 0 0] W fun e w' => ∃ v, e = .returned v ∧ Kd.R (Kd.int .u8) 5 w' W.heap.size (fun _ => True) v d2 ∧ Below W.heap.size W w') := Lib.hid (fun W hW => by
    have h := clone_any none 0 [] W (C_empty _ _ _) (by simp)
    rw [HD2.out]
    exact h)
  refine wp_region_noPanic ?_
  refine wp_region_held_drew (S := fun _ => True) (by kernel_rfl) trivial (fun hHeld => ?_)
  refine wpAnyH_take (i := 0) (v := ?_) rfl (by kernel_rfl) (by kernel_rfl) (by kernel_rfl) (fun _ _ _ h => h) (Or.inl ⟨by rfl, ?_⟩) (by assumption) ?_
  rotate_left
  · intro w hSw
    go_simp
    try (with_reducible rfl)
  try simp only [Act.put, List.setIfInBounds_toArray, List.set_cons_zero, List.set_cons_succ]
  refine wpAnyH_take (i := 3) (v := ?_) rfl (by kernel_rfl) (by kernel_rfl) (by kernel_rfl) (fun _ _ _ h => h) (Or.inl ⟨by rfl, ?_⟩) (by assumption) ?_
  rotate_left
  · intro w hSw
    go_simp
    try (with_reducible rfl)
  try simp only [Act.put, List.setIfInBounds_toArray, List.set_cons_zero, List.set_cons_succ]
  refine wpAnyH_ready (rs := [1, 4]) (by kernel_rfl) (by simp) ?_
  refine AllReadyH.cons (o := _) rfl (fun K hK => ?_) ?_
  · go_simp
    refine hK.out _ _ trivial (fun hHeld => ?_)
    clear hK K
    try simp only [Act.put, List.setIfInBounds_toArray, List.set_cons_zero, List.set_cons_succ]
    refine wpAnyH_ready (rs := [2, 4]) (by kernel_rfl) (by simp) ?_
    refine AllReadyH.cons (o := _) rfl (fun K hK => ?_) ?_
    · go_simp
      go_at_call 17
      refine (HC1.out _ ?hb).mono ?_
      case hb => exact below_drew (Below.refl _ _)
      rintro e w5 ⟨v5, rfl, hR5, hb⟩
      obtain ⟨A5, c5, rfl, -, -, hab5, -⟩ := Ses.R_slots hR5
      have HR5 := Lib.hid hR5; have HA5 := Lib.hid hab5; have HB5 := Lib.hid ((below_drew (Below.refl w2.heap.size w2)).trans hb)
      have h1 := (HB5.out.block _ hn1).trans K1.out; have h2 := (HB5.out.block _ hn2).trans K2.out
      clear y0 z0 fy0 fz0 y1 z1 fy1 fz1 y2 z2 fy2 fz2 y3 z3 fy3 fz3 y4 z4 fy4 fz4
      have y0 := xb_cell h2 0; have z0 := xb_cell h1 0; have fy0 := blk_free h2 0; have fz0 := blk_free h1 0; have y1 := xb_cell h2 1; have z1 := xb_cell h1 1; have fy1 := blk_free h2 1; have fz1 := blk_free h1 1; have y2 := xb_cell h2 2; have z2 := xb_cell h1 2; have fy2 := blk_free h2 2; have fz2 := blk_free h1 2; have y3 := xb_cell h2 3; have z3 := xb_cell h1 3; have fy3 := blk_free h2 3; have fz3 := blk_free h1 3; have y4 := xb_cell h2 4; have z4 := xb_cell h1 4; have fy4 := blk_free h2 4; have fz4 := blk_free h1 4; simp only [List.getElem?_toArray, List.getElem?_cons_zero, List.getElem?_cons_succ] at y0 z0 y1 z1 y2 z2 y3 z3 y4 z4
      have H1 := Lib.hid h1; have H2 := Lib.hid h2
      clear hR5 hab5 hb h1 h2
      rw [← HN1.out]
      go_wp2
      refine hK.out _ _ trivial (fun hHeld => ?_)
      clear hK K
      try simp only [Act.put, List.setIfInBounds_toArray, List.set_cons_zero, List.set_cons_succ]
      refine wpAnyH_ready (rs := [4]) (by kernel_rfl) (by simp) ?_
      refine AllReadyH.cons (o := _) rfl (fun K hK => ?_) ?_
      · go_simp
        refine hK.out _ _ trivial (fun hHeld => ?_)
        clear hK K
        try simp only [Act.put, List.setIfInBounds_toArray, List.set_cons_zero, List.set_cons_succ]
        refine wpAnyH_take (i := 6) (v := ?_) rfl (by kernel_rfl) (by kernel_rfl) (by kernel_rfl) (fun _ _ _ h => h) (Or.inl ⟨by rfl, ?_⟩) (by assumption) ?_
        rotate_left
        · intro w hSw
          go_simp
          try (with_reducible rfl)
        try simp only [Act.put, List.setIfInBounds_toArray, List.set_cons_zero, List.set_cons_succ]
        refine wpAnyH_ready (rs := [5]) (by kernel_rfl) (by simp) ?_
        refine AllReadyH.cons (o := _) rfl (fun K hK => ?_) ?_
        · go_simp
          go_at_call 17
          refine (HC2.out _ ?hb).mono ?_
          case hb => exact HB5.out
          rintro e w6 ⟨v6, rfl, hR6, hb⟩
          obtain ⟨A6, c6, rfl, -, -, hab6, -⟩ := Ses.R_slots hR6
          have HR6 := Lib.hid hR6; have HA6 := Lib.hid hab6; have HB6 := Lib.hid hb
          have h1 := (hb.block _ (xb_lt H1.out)).trans H1.out; have h2 := (hb.block _ (xb_lt H2.out)).trans H2.out
          clear y0 z0 fy0 fz0 y1 z1 fy1 fz1 y2 z2 fy2 fz2 y3 z3 fy3 fz3 y4 z4 fy4 fz4
          have y0 := xb_cell h2 0; have z0 := xb_cell h1 0; have fy0 := blk_free h2 0; have fz0 := blk_free h1 0; have y1 := xb_cell h2 1; have z1 := xb_cell h1 1; have fy1 := blk_free h2 1; have fz1 := blk_free h1 1; have y2 := xb_cell h2 2; have z2 := xb_cell h1 2; have fy2 := blk_free h2 2; have fz2 := blk_free h1 2; have y3 := xb_cell h2 3; have z3 := xb_cell h1 3; have fy3 := blk_free h2 3; have fz3 := blk_free h1 3; have y4 := xb_cell h2 4; have z4 := xb_cell h1 4; have fy4 := blk_free h2 4; have fz4 := blk_free h1 4; simp only [List.getElem?_toArray, List.getElem?_cons_zero, List.getElem?_cons_succ] at y0 z0 y1 z1 y2 z2 y3 z3 y4 z4
          have L1 := Lib.hid h1; have L2 := Lib.hid h2
          clear hR6 hab6 hb h1 h2
          go_wp2
          refine hK.out _ _ trivial (fun hHeld => ?_)
          clear hK K
          try simp only [Act.put, List.setIfInBounds_toArray, List.set_cons_zero, List.set_cons_succ]
          refine wpAnyH_ready (rs := [7]) (by kernel_rfl) (by simp) ?_
          refine AllReadyH.cons (o := _) rfl (fun K hK => ?_) ?_
          · go_simp
            refine hK.out _ _ trivial (fun hHeld => ?_)
            clear hK K
            try simp only [Act.put, List.setIfInBounds_toArray, List.set_cons_zero, List.set_cons_succ]
            refine wpAnyH_take (i := 8) (v := ?_) rfl (by kernel_rfl) (by kernel_rfl) (by kernel_rfl) (fun _ _ _ h => h) (Or.inl ⟨by rfl, ?_⟩) (by assumption) ?_
            rotate_left
            · intro w hSw
              go_simp
              try (with_reducible rfl)
            try simp only [Act.put, List.setIfInBounds_toArray, List.set_cons_zero, List.set_cons_succ]
            refine wpAnyH_ready (rs := [9]) (by kernel_rfl) (by simp) ?_
            refine AllReadyH.cons (o := _) rfl (fun K hK => ?_) ?_
            · go_simp
              refine hK.out _ _ trivial (fun hHeld => ?_)
              clear hK K
              try simp only [Act.put, List.setIfInBounds_toArray, List.set_cons_zero, List.set_cons_succ]
              refine wpAnyH_done (by kernel_rfl) ?_ _
              refine NoPanic.normal ?_
              go_wp2
              refine bodyPost_ret (results_cell_row rfl _ _ (w.heap.size + 1) 38 #[.bool true, .slice A5 n1 c5, .slice A6 d2.length c6, .int .i64 0, .string ⟨#[]⟩] (0, 0) _ rfl ?_ Tryd.underlying38 rfl (by kernel_rfl)) rfl ?_
              · exact Ses.got_block2 (by omega) L1.out _ _ _ _ _ _ _
              · have hz5 := HB5.out.size
                have hz6 := HB6.out.size
                have q5 : ∀ k, (Value.slice A5 d1.length c5).ownBlock = some k → k ≠ w.heap.size + 1 ∧ k ≠ w.heap.size + 1 + 1 := fun k hk => by
                  have hlt : w2.heap.size ≤ k := Kd.R_base HR5.out k hk
                  omega
                have q6 : ∀ k, (Value.slice A6 d2.length c6).ownBlock = some k → k ≠ w.heap.size + 1 ∧ k ≠ w.heap.size + 1 + 1 := fun k hk => by
                  have hlt : w5.heap.size ≤ k := Kd.R_base HR6.out k hk
                  omega
                have D5 : Ses.DataB w.heap.size d1 w6 (.slice A5 d1.length c5) := Kd.R_below (Kd.R_lower HR5.out (show w.heap.size ≤ w2.heap.size by omega)) HB6.out
                have D6 : Ses.DataB w.heap.size d2 w6 (.slice A6 d2.length c6) := Kd.R_lower HR6.out (by omega)
                rw [HN1.out]
                refine ⟨A5, _, c5, A6, _, c6, rfl, ?_, ?_, ?_, ?_⟩
                · iterate 5 refine Ses.DataB_far ?_ (fun k hk => (q5 k hk).1) _
                  iterate 2 refine Ses.DataB_far ?_ (fun k hk => (q5 k hk).2) _
                  exact D5
                · iterate 5 refine Ses.DataB_far ?_ (fun k hk => (q6 k hk).1) _
                  iterate 2 refine Ses.DataB_far ?_ (fun k hk => (q6 k hk).2) _
                  exact D6
                · iterate 7 refine Ses.RS.far ?_ _ (by omega) (by omega)
                  exact (hXr.out.bl HB5.out).bl HB6.out
                · iterate 7 refine grown_far ?_ _ (by omega)
                  exact grown_bl (grown_bl hXg.out HB5.out) HB6.out
            exact AllReadyH.nil
          exact AllReadyH.nil
        exact AllReadyH.nil
      exact AllReadyH.nil
    refine AllReadyH.cons (o := _) rfl (fun K hK => ?_) ?_
    · go_simp
      refine hK.out _ _ trivial (fun hHeld => ?_)
      clear hK K
      try simp only [Act.put, List.setIfInBounds_toArray, List.set_cons_zero, List.set_cons_succ]
      refine wpAnyH_ready (rs := [2]) (by kernel_rfl) (by simp) ?_
      refine AllReadyH.cons (o := _) rfl (fun K hK => ?_) ?_
      · go_simp
        go_at_call 17
        refine (HC1.out _ ?hb).mono ?_
        case hb => exact below_drew (Below.refl _ _)
        rintro e w5 ⟨v5, rfl, hR5, hb⟩
        obtain ⟨A5, c5, rfl, -, -, hab5, -⟩ := Ses.R_slots hR5
        have HR5 := Lib.hid hR5; have HA5 := Lib.hid hab5; have HB5 := Lib.hid ((below_drew (Below.refl w2.heap.size w2)).trans hb)
        have h1 := (HB5.out.block _ hn1).trans K1.out; have h2 := (HB5.out.block _ hn2).trans K2.out
        clear y0 z0 fy0 fz0 y1 z1 fy1 fz1 y2 z2 fy2 fz2 y3 z3 fy3 fz3 y4 z4 fy4 fz4
        have y0 := xb_cell h2 0; have z0 := xb_cell h1 0; have fy0 := blk_free h2 0; have fz0 := blk_free h1 0; have y1 := xb_cell h2 1; have z1 := xb_cell h1 1; have fy1 := blk_free h2 1; have fz1 := blk_free h1 1; have y2 := xb_cell h2 2; have z2 := xb_cell h1 2; have fy2 := blk_free h2 2; have fz2 := blk_free h1 2; have y3 := xb_cell h2 3; have z3 := xb_cell h1 3; have fy3 := blk_free h2 3; have fz3 := blk_free h1 3; have y4 := xb_cell h2 4; have z4 := xb_cell h1 4; have fy4 := blk_free h2 4; have fz4 := blk_free h1 4; simp only [List.getElem?_toArray, List.getElem?_cons_zero, List.getElem?_cons_succ] at y0 z0 y1 z1 y2 z2 y3 z3 y4 z4
        have H1 := Lib.hid h1; have H2 := Lib.hid h2
        clear hR5 hab5 hb h1 h2
        rw [← HN1.out]
        go_wp2
        refine hK.out _ _ trivial (fun hHeld => ?_)
        clear hK K
        try simp only [Act.put, List.setIfInBounds_toArray, List.set_cons_zero, List.set_cons_succ]
        refine wpAnyH_take (i := 6) (v := ?_) rfl (by kernel_rfl) (by kernel_rfl) (by kernel_rfl) (fun _ _ _ h => h) (Or.inl ⟨by rfl, ?_⟩) (by assumption) ?_
        rotate_left
        · intro w hSw
          go_simp
          try (with_reducible rfl)
        try simp only [Act.put, List.setIfInBounds_toArray, List.set_cons_zero, List.set_cons_succ]
        refine wpAnyH_ready (rs := [5]) (by kernel_rfl) (by simp) ?_
        refine AllReadyH.cons (o := _) rfl (fun K hK => ?_) ?_
        · go_simp
          go_at_call 17
          refine (HC2.out _ ?hb).mono ?_
          case hb => exact HB5.out
          rintro e w6 ⟨v6, rfl, hR6, hb⟩
          obtain ⟨A6, c6, rfl, -, -, hab6, -⟩ := Ses.R_slots hR6
          have HR6 := Lib.hid hR6; have HA6 := Lib.hid hab6; have HB6 := Lib.hid hb
          have h1 := (hb.block _ (xb_lt H1.out)).trans H1.out; have h2 := (hb.block _ (xb_lt H2.out)).trans H2.out
          clear y0 z0 fy0 fz0 y1 z1 fy1 fz1 y2 z2 fy2 fz2 y3 z3 fy3 fz3 y4 z4 fy4 fz4
          have y0 := xb_cell h2 0; have z0 := xb_cell h1 0; have fy0 := blk_free h2 0; have fz0 := blk_free h1 0; have y1 := xb_cell h2 1; have z1 := xb_cell h1 1; have fy1 := blk_free h2 1; have fz1 := blk_free h1 1; have y2 := xb_cell h2 2; have z2 := xb_cell h1 2; have fy2 := blk_free h2 2; have fz2 := blk_free h1 2; have y3 := xb_cell h2 3; have z3 := xb_cell h1 3; have fy3 := blk_free h2 3; have fz3 := blk_free h1 3; have y4 := xb_cell h2 4; have z4 := xb_cell h1 4; have fy4 := blk_free h2 4; have fz4 := blk_free h1 4; simp only [List.getElem?_toArray, List.getElem?_cons_zero, List.getElem?_cons_succ] at y0 z0 y1 z1 y2 z2 y3 z3 y4 z4
          have L1 := Lib.hid h1; have L2 := Lib.hid h2
          clear hR6 hab6 hb h1 h2
          go_wp2
          refine hK.out _ _ trivial (fun hHeld => ?_)
          clear hK K
          try simp only [Act.put, List.setIfInBounds_toArray, List.set_cons_zero, List.set_cons_succ]
          refine wpAnyH_ready (rs := [7]) (by kernel_rfl) (by simp) ?_
          refine AllReadyH.cons (o := _) rfl (fun K hK => ?_) ?_
          · go_simp
            refine hK.out _ _ trivial (fun hHeld => ?_)
            clear hK K
            try simp only [Act.put, List.setIfInBounds_toArray, List.set_cons_zero, List.set_cons_succ]
            refine wpAnyH_take (i := 8) (v := ?_) rfl (by kernel_rfl) (by kernel_rfl) (by kernel_rfl) (fun _ _ _ h => h) (Or.inl ⟨by rfl, ?_⟩) (by assumption) ?_
            rotate_left
            · intro w hSw
              go_simp
              try (with_reducible rfl)
            try simp only [Act.put, List.setIfInBounds_toArray, List.set_cons_zero, List.set_cons_succ]
            refine wpAnyH_ready (rs := [9]) (by kernel_rfl) (by simp) ?_
            refine AllReadyH.cons (o := _) rfl (fun K hK => ?_) ?_
            · go_simp
              refine hK.out _ _ trivial (fun hHeld => ?_)
              clear hK K
              try simp only [Act.put, List.setIfInBounds_toArray, List.set_cons_zero, List.set_cons_succ]
              refine wpAnyH_done (by kernel_rfl) ?_ _
              refine NoPanic.normal ?_
              go_wp2
              refine bodyPost_ret (results_cell_row rfl _ _ (w.heap.size + 1) 38 #[.bool true, .slice A5 n1 c5, .slice A6 d2.length c6, .int .i64 0, .string ⟨#[]⟩] (0, 0) _ rfl ?_ Tryd.underlying38 rfl (by kernel_rfl)) rfl ?_
              · exact Ses.got_block2 (by omega) L1.out _ _ _ _ _ _ _
              · have hz5 := HB5.out.size
                have hz6 := HB6.out.size
                have q5 : ∀ k, (Value.slice A5 d1.length c5).ownBlock = some k → k ≠ w.heap.size + 1 ∧ k ≠ w.heap.size + 1 + 1 := fun k hk => by
                  have hlt : w2.heap.size ≤ k := Kd.R_base HR5.out k hk
                  omega
                have q6 : ∀ k, (Value.slice A6 d2.length c6).ownBlock = some k → k ≠ w.heap.size + 1 ∧ k ≠ w.heap.size + 1 + 1 := fun k hk => by
                  have hlt : w5.heap.size ≤ k := Kd.R_base HR6.out k hk
                  omega
                have D5 : Ses.DataB w.heap.size d1 w6 (.slice A5 d1.length c5) := Kd.R_below (Kd.R_lower HR5.out (show w.heap.size ≤ w2.heap.size by omega)) HB6.out
                have D6 : Ses.DataB w.heap.size d2 w6 (.slice A6 d2.length c6) := Kd.R_lower HR6.out (by omega)
                rw [HN1.out]
                refine ⟨A5, _, c5, A6, _, c6, rfl, ?_, ?_, ?_, ?_⟩
                · iterate 5 refine Ses.DataB_far ?_ (fun k hk => (q5 k hk).1) _
                  iterate 2 refine Ses.DataB_far ?_ (fun k hk => (q5 k hk).2) _
                  exact D5
                · iterate 5 refine Ses.DataB_far ?_ (fun k hk => (q6 k hk).1) _
                  iterate 2 refine Ses.DataB_far ?_ (fun k hk => (q6 k hk).2) _
                  exact D6
                · iterate 7 refine Ses.RS.far ?_ _ (by omega) (by omega)
                  exact (hXr.out.bl HB5.out).bl HB6.out
                · iterate 7 refine grown_far ?_ _ (by omega)
                  exact grown_bl (grown_bl hXg.out HB5.out) HB6.out
            exact AllReadyH.nil
          exact AllReadyH.nil
        exact AllReadyH.nil
      exact AllReadyH.nil
    exact AllReadyH.nil
  refine AllReadyH.cons (o := _) rfl (fun K hK => ?_) ?_
  · go_simp
    refine hK.out _ _ trivial (fun hHeld => ?_)
    clear hK K
    try simp only [Act.put, List.setIfInBounds_toArray, List.set_cons_zero, List.set_cons_succ]
    refine wpAnyH_ready (rs := [1]) (by kernel_rfl) (by simp) ?_
    refine AllReadyH.cons (o := _) rfl (fun K hK => ?_) ?_
    · go_simp
      refine hK.out _ _ trivial (fun hHeld => ?_)
      clear hK K
      try simp only [Act.put, List.setIfInBounds_toArray, List.set_cons_zero, List.set_cons_succ]
      refine wpAnyH_ready (rs := [2]) (by kernel_rfl) (by simp) ?_
      refine AllReadyH.cons (o := _) rfl (fun K hK => ?_) ?_
      · go_simp
        go_at_call 17
        refine (HC1.out _ ?hb).mono ?_
        case hb => exact below_drew (Below.refl _ _)
        rintro e w5 ⟨v5, rfl, hR5, hb⟩
        obtain ⟨A5, c5, rfl, -, -, hab5, -⟩ := Ses.R_slots hR5
        have HR5 := Lib.hid hR5; have HA5 := Lib.hid hab5; have HB5 := Lib.hid ((below_drew (Below.refl w2.heap.size w2)).trans hb)
        have h1 := (HB5.out.block _ hn1).trans K1.out; have h2 := (HB5.out.block _ hn2).trans K2.out
        clear y0 z0 fy0 fz0 y1 z1 fy1 fz1 y2 z2 fy2 fz2 y3 z3 fy3 fz3 y4 z4 fy4 fz4
        have y0 := xb_cell h2 0; have z0 := xb_cell h1 0; have fy0 := blk_free h2 0; have fz0 := blk_free h1 0; have y1 := xb_cell h2 1; have z1 := xb_cell h1 1; have fy1 := blk_free h2 1; have fz1 := blk_free h1 1; have y2 := xb_cell h2 2; have z2 := xb_cell h1 2; have fy2 := blk_free h2 2; have fz2 := blk_free h1 2; have y3 := xb_cell h2 3; have z3 := xb_cell h1 3; have fy3 := blk_free h2 3; have fz3 := blk_free h1 3; have y4 := xb_cell h2 4; have z4 := xb_cell h1 4; have fy4 := blk_free h2 4; have fz4 := blk_free h1 4; simp only [List.getElem?_toArray, List.getElem?_cons_zero, List.getElem?_cons_succ] at y0 z0 y1 z1 y2 z2 y3 z3 y4 z4
        have H1 := Lib.hid h1; have H2 := Lib.hid h2
        clear hR5 hab5 hb h1 h2
        rw [← HN1.out]
        go_wp2
        refine hK.out _ _ trivial (fun hHeld => ?_)
        clear hK K
        try simp only [Act.put, List.setIfInBounds_toArray, List.set_cons_zero, List.set_cons_succ]
        refine wpAnyH_take (i := 6) (v := ?_) rfl (by kernel_rfl) (by kernel_rfl) (by kernel_rfl) (fun _ _ _ h => h) (Or.inl ⟨by rfl, ?_⟩) (by assumption) ?_
        rotate_left
        · intro w hSw
          go_simp
          try (with_reducible rfl)
        try simp only [Act.put, List.setIfInBounds_toArray, List.set_cons_zero, List.set_cons_succ]
        refine wpAnyH_ready (rs := [5]) (by kernel_rfl) (by simp) ?_
        refine AllReadyH.cons (o := _) rfl (fun K hK => ?_) ?_
        · go_simp
          go_at_call 17
          refine (HC2.out _ ?hb).mono ?_
          case hb => exact HB5.out
          rintro e w6 ⟨v6, rfl, hR6, hb⟩
          obtain ⟨A6, c6, rfl, -, -, hab6, -⟩ := Ses.R_slots hR6
          have HR6 := Lib.hid hR6; have HA6 := Lib.hid hab6; have HB6 := Lib.hid hb
          have h1 := (hb.block _ (xb_lt H1.out)).trans H1.out; have h2 := (hb.block _ (xb_lt H2.out)).trans H2.out
          clear y0 z0 fy0 fz0 y1 z1 fy1 fz1 y2 z2 fy2 fz2 y3 z3 fy3 fz3 y4 z4 fy4 fz4
          have y0 := xb_cell h2 0; have z0 := xb_cell h1 0; have fy0 := blk_free h2 0; have fz0 := blk_free h1 0; have y1 := xb_cell h2 1; have z1 := xb_cell h1 1; have fy1 := blk_free h2 1; have fz1 := blk_free h1 1; have y2 := xb_cell h2 2; have z2 := xb_cell h1 2; have fy2 := blk_free h2 2; have fz2 := blk_free h1 2; have y3 := xb_cell h2 3; have z3 := xb_cell h1 3; have fy3 := blk_free h2 3; have fz3 := blk_free h1 3; have y4 := xb_cell h2 4; have z4 := xb_cell h1 4; have fy4 := blk_free h2 4; have fz4 := blk_free h1 4; simp only [List.getElem?_toArray, List.getElem?_cons_zero, List.getElem?_cons_succ] at y0 z0 y1 z1 y2 z2 y3 z3 y4 z4
          have L1 := Lib.hid h1; have L2 := Lib.hid h2
          clear hR6 hab6 hb h1 h2
          go_wp2
          refine hK.out _ _ trivial (fun hHeld => ?_)
          clear hK K
          try simp only [Act.put, List.setIfInBounds_toArray, List.set_cons_zero, List.set_cons_succ]
          refine wpAnyH_ready (rs := [7]) (by kernel_rfl) (by simp) ?_
          refine AllReadyH.cons (o := _) rfl (fun K hK => ?_) ?_
          · go_simp
            refine hK.out _ _ trivial (fun hHeld => ?_)
            clear hK K
            try simp only [Act.put, List.setIfInBounds_toArray, List.set_cons_zero, List.set_cons_succ]
            refine wpAnyH_take (i := 8) (v := ?_) rfl (by kernel_rfl) (by kernel_rfl) (by kernel_rfl) (fun _ _ _ h => h) (Or.inl ⟨by rfl, ?_⟩) (by assumption) ?_
            rotate_left
            · intro w hSw
              go_simp
              try (with_reducible rfl)
            try simp only [Act.put, List.setIfInBounds_toArray, List.set_cons_zero, List.set_cons_succ]
            refine wpAnyH_ready (rs := [9]) (by kernel_rfl) (by simp) ?_
            refine AllReadyH.cons (o := _) rfl (fun K hK => ?_) ?_
            · go_simp
              refine hK.out _ _ trivial (fun hHeld => ?_)
              clear hK K
              try simp only [Act.put, List.setIfInBounds_toArray, List.set_cons_zero, List.set_cons_succ]
              refine wpAnyH_done (by kernel_rfl) ?_ _
              refine NoPanic.normal ?_
              go_wp2
              refine bodyPost_ret (results_cell_row rfl _ _ (w.heap.size + 1) 38 #[.bool true, .slice A5 n1 c5, .slice A6 d2.length c6, .int .i64 0, .string ⟨#[]⟩] (0, 0) _ rfl ?_ Tryd.underlying38 rfl (by kernel_rfl)) rfl ?_
              · exact Ses.got_block2 (by omega) L1.out _ _ _ _ _ _ _
              · have hz5 := HB5.out.size
                have hz6 := HB6.out.size
                have q5 : ∀ k, (Value.slice A5 d1.length c5).ownBlock = some k → k ≠ w.heap.size + 1 ∧ k ≠ w.heap.size + 1 + 1 := fun k hk => by
                  have hlt : w2.heap.size ≤ k := Kd.R_base HR5.out k hk
                  omega
                have q6 : ∀ k, (Value.slice A6 d2.length c6).ownBlock = some k → k ≠ w.heap.size + 1 ∧ k ≠ w.heap.size + 1 + 1 := fun k hk => by
                  have hlt : w5.heap.size ≤ k := Kd.R_base HR6.out k hk
                  omega
                have D5 : Ses.DataB w.heap.size d1 w6 (.slice A5 d1.length c5) := Kd.R_below (Kd.R_lower HR5.out (show w.heap.size ≤ w2.heap.size by omega)) HB6.out
                have D6 : Ses.DataB w.heap.size d2 w6 (.slice A6 d2.length c6) := Kd.R_lower HR6.out (by omega)
                rw [HN1.out]
                refine ⟨A5, _, c5, A6, _, c6, rfl, ?_, ?_, ?_, ?_⟩
                · iterate 5 refine Ses.DataB_far ?_ (fun k hk => (q5 k hk).1) _
                  iterate 2 refine Ses.DataB_far ?_ (fun k hk => (q5 k hk).2) _
                  exact D5
                · iterate 5 refine Ses.DataB_far ?_ (fun k hk => (q6 k hk).1) _
                  iterate 2 refine Ses.DataB_far ?_ (fun k hk => (q6 k hk).2) _
                  exact D6
                · iterate 7 refine Ses.RS.far ?_ _ (by omega) (by omega)
                  exact (hXr.out.bl HB5.out).bl HB6.out
                · iterate 7 refine grown_far ?_ _ (by omega)
                  exact grown_bl (grown_bl hXg.out HB5.out) HB6.out
            exact AllReadyH.nil
          exact AllReadyH.nil
        exact AllReadyH.nil
      exact AllReadyH.nil
    exact AllReadyH.nil
  exact AllReadyH.nil
end Go.Proofs.YtdnahdddkagfhaaDoor.X
/- impl.SessionPut of one CLR of two bytes; laws.sessionLive. -/
namespace Go.Proofs.YtdnahdddkagfhaaDoor.X
open Go.RowKit Go.Proofs.YtdnahdddkagfhaaDoorW.PrintWords Go.Proofs.YtdnahdddkagfhaaDoorW.PrintMore
attribute [local go_sem] setCell_drewN alloc_drewN
set_option linter.unusedVariables false
set_option linter.unusedSimpArgs false
theorem Ses.src_of {w : World} {g : Nat} {x y : Int} (h : ∀ i : Nat, i < 2 → w.cell? ⟨g, i, none⟩ = some (.int .u8 ([x, y].getD i 0))) : ∀ j v, (nums .u8 [x, y])[j]? = some v → w.cell? ((⟨g, 0, none⟩ : Addr).add j) = some v := by
  intro j v hv
  rcases j with _ | _ | j
  · have := h 0 (by omega)
    have e : v = .int .u8 x := by simpa [nums] using hv.symm
    rw [e]
    exact this
  · have := h 1 (by omega)
    have e : v = .int .u8 y := by simpa [nums] using hv.symm
    rw [e]
    exact this
  · simp [nums] at hv
set_option maxHeartbeats 4000000 in
set_option maxRecDepth 100000 in
theorem put_two (x y : Int) (big : Bool) (chunk : Int) (w : World) (g0 gd cd : Nat) (s0 : w.cell? ⟨g0, 0, none⟩ = some (.int .i64 1)) (s1 : w.cell? ⟨g0, 1, none⟩ = some (.slice (some ⟨gd, 0, none⟩) 2 cd)) (s2 : w.cell? ⟨g0, 2, none⟩ = some (.slice none 0 0)) (s3 : w.cell? ⟨g0, 3, none⟩ = some (.int .i64 0)) (s4 : w.cell? ⟨g0, 4, none⟩ = some (.int .u64 0)) (s5 : w.cell? ⟨g0, 5, none⟩ = some (.int .u8 0)) (s6 : w.cell? ⟨g0, 6, none⟩ = some (.int .u8 0)) (s7 : w.cell? ⟨g0, 7, none⟩ = some (.bool false)) (s8 : w.cell? ⟨g0, 8, none⟩ = some (.bool false))
    (hd : ∀ i : Nat, i < 2 → w.cell? ⟨gd, i, none⟩ = some (.int .u8 ([x, y].getD i 0))) :
    Calls Tryd.prog 16 #[.slice (some ⟨g0, 0, none⟩) 1 1, .bool big, .int .i64 chunk] w fun e w' => ∃ v, e = .returned v ∧ Kd.R (Kd.int .u8) 5 w' w.heap.size (fun _ => True) v [2, x, y] ∧ Below w.heap.size w w' := by
  have hg0 := World.block_lt_of_cell? w _ s0
  have HD := Lib.hid hd
  clear hd
  go_enter Tryd.func16, Tryd.ntmps16
  go_wp2_with (go_at_call 39; (with_reducible refine (newSession _ w ⟨_, _, _, rfl⟩).mono ?_); rintro e w2 ⟨rfl, rfl⟩)
  have HBk : Hid ((w.alloc (.cells #[.slice none 0 0, .slice none 0 0, .int .i64 0, .int .i8 0, .int .i64 0, .bool big, .int .i64 chunk] 82)).heap[w.heap.size]? = some (.cells #[.slice none 0 0, .slice none 0 0, .int .i64 0, .int .i8 0, .int .i64 0, .bool big, .int .i64 chunk] 82 (0, 0))) := Lib.hid (xb_new _ _)
  have HBw : Hid (Below w.heap.size w (w.alloc (.cells #[.slice none 0 0, .slice none 0 0, .int .i64 0, .int .i8 0, .int .i64 0, .bool big, .int .i64 chunk] 82))) := Lib.hid (below_alloc (Below.refl _ _) _)
  generalize w.alloc (.cells #[.slice none 0 0, .slice none 0 0, .int .i64 0, .int .i8 0, .int .i64 0, .bool big, .int .i64 chunk] 82) = w3 at *
  go_loopw [24] (fun v24 wr => (v24 = .int .i64 0 ∧ wr = w3) ∨ (v24 = .int .i64 1 ∧ Hid (∃ g cap cur cs', wr.heap[w.heap.size]? = some (.cells cs' 82 (0, 0)) ∧ cs'[1]? = some (.slice (some ⟨g, 0, none⟩) 3 cap) ∧ cs'[2]? = some (.int .i64 0) ∧ wr.heap[g]? = some (.cells cur 5 (0, 0)) ∧ 3 ≤ cap ∧ cap ≤ maxLen ∧ cur.size = cap ∧ cur.toList.take 3 = nums .u8 [2, x, y]) ∧ Hid (Below w.heap.size w wr))) (fun v24 _ => 1 - (intOf v24).toNat)
  case atStart => exact .inl ⟨rfl, rfl⟩
  case round =>
    rcases hrel with ⟨rfl, rfl⟩ | ⟨rfl, HP, HBr⟩
    · replace s0 := bl_cell HBw.out s0
      replace s1 := bl_cell HBw.out s1
      replace s2 := bl_cell HBw.out s2
      replace s3 := bl_cell HBw.out s3
      replace s4 := bl_cell HBw.out s4
      replace s5 := bl_cell HBw.out s5
      replace s6 := bl_cell HBw.out s6
      replace s7 := bl_cell HBw.out s7
      replace s8 := bl_cell HBw.out s8
      go_wp2
      have HB4 : Hid (Below wr.heap.size wr (wr.alloc (.cells #[.int .i64 1, .slice (some ⟨gd, 0, none⟩) 2 cd, .slice none 0 0, .int .i64 0, .int .u64 0, .int .u8 0, .int .u8 0, .bool false, .bool false] 29))) := Lib.hid (below_alloc (Below.refl _ _) _)
      have hq : (wr.alloc (.cells #[.int .i64 1, .slice (some ⟨gd, 0, none⟩) 2 cd, .slice none 0 0, .int .i64 0, .int .u64 0, .int .u8 0, .int .u8 0, .bool false, .bool false] 29)).heap[wr.heap.size]? = some (.cells #[.int .i64 1, .slice (some ⟨gd, 0, none⟩) 2 cd, .slice none 0 0, .int .i64 0, .int .u64 0, .int .u8 0, .int .u8 0, .bool false, .bool false] 29 (0, 0)) := xb_new _ _
      have q0 := xb_cell hq 0
      have q1 := xb_cell hq 1
      have q2 := xb_cell hq 2
      simp only [List.getElem?_toArray, List.getElem?_cons_zero, List.getElem?_cons_succ] at q0 q1 q2
      clear hq s0 s1 s2 s3 s4 s5 s6 s7 s8
      generalize (wr.alloc (.cells #[.int .i64 1, .slice (some ⟨gd, 0, none⟩) 2 cd, .slice none 0 0, .int .i64 0, .int .u64 0, .int .u8 0, .int .u8 0, .bool false, .bool false] 29)) = w4 at *
      have HCd := Lib.hid (Tryd.bytes_Clone_at ⟨gd, 0, none⟩ 2 cd [x, y] w4.drew rfl (by omega) (fun i hi => by
        have h4 := bl_cell HB4.out (bl_cell HBw.out (HD.out i hi))
        unfold Addr.add
        split
        · rename_i hz
          have hz' : i = 0 := by simpa using hz
          subst hz'
          exact h4
        · simpa using h4))
      have HCn := Lib.hid (fun n c W => Tryd.bytes_Clone_nil n c W)
      have hzb := xb_lt HBk.out
      have hz4 := HB4.out.size
      go_region_held3 (fun w' => w'.cell? ⟨wr.heap.size, 1, none⟩ = some (.slice (some ⟨gd, 0, none⟩) 2 cd) ∧ w'.cell? ⟨wr.heap.size, 2, none⟩ = some (.slice none 0 0)) (first | exact ⟨q1, q2⟩ | exact ⟨k1, k2⟩ | assumption) (first | (go_at_call 17; (with_reducible refine HCd.out.mono ?_); rintro e w5 ⟨v5, rfl, hown, hne, hb5⟩; obtain ⟨g5, c5, rfl, hbg5, hgl5, hnc5, -, hcl5⟩ := Ses.row_form hown hne; have k0 := bl_cell hb5 q0; have k1 := bl_cell hb5 q1; have k2 := bl_cell hb5 q2; have HB5 := Lib.hid hb5; have HC5 := Lib.hid hcl5; clear hown hne hb5 hcl5) | (go_at_call 17; (with_reducible refine (HCn.out _ _ _).mono ?_); rintro e w6 ⟨rfl, rfl⟩))
      have hgs : w4.heap.size ≤ g5 := hbg5
      have hbk6 : w6.heap[w.heap.size]? = some (.cells #[.slice none 0 0, .slice none 0 0, .int .i64 0, .int .i8 0, .int .i64 0, .bool big, .int .i64 chunk] 82 (0, 0)) := (HB5.out.block w.heap.size (by show w.heap.size < w4.heap.size; omega)).trans ((HB4.out.block w.heap.size hzb).trans HBk.out)
      have HPc := Lib.hid (putClr_two w.heap.size _ 0 w6 x y ⟨g5, 0, none⟩ c5 hbk6 rfl rfl rfl (Ses.src_of HC5.out) (by show g5 ≠ _; omega) hgl5)
      clear hbk6
      go_wp2_with (go_at_call 41; (with_reducible refine HPc.out.mono ?_); rintro e w7 ⟨g, cap, cur, cs', rfl, hb7, h1, h2, hg7, hlc, hcm, hcu, hta, hgb, hgr⟩; have HP7 := Lib.hid hb7; have HG7 := Lib.hid hg7; have HT7 := Lib.hid hta; have HGr7 := Lib.hid hgr; have HI1 := Lib.hid h1; have HI2 := Lib.hid h2; clear hb7 h1 h2 hg7 hta hgr)
      go_roundw
      case measure => simp [intOf]
      case rel =>
        have hB6 : Below w.heap.size w w6 := HBw.out.trans ((HB4.out.mono HBw.out.size).trans ((below_drew (Below.refl _ _)).trans (HB5.out.mono (by show w.heap.size ≤ w4.heap.size; omega))))
        exact .inr ⟨rfl, Lib.hid ⟨g, cap, cur, cs', HP7.out, HI1.out, HI2.out, HG7.out, hlc, hcm, hcu, HT7.out⟩, Lib.hid (grown_below hB6 HGr7.out hB6.size (Nat.le_refl _))⟩
    · obtain ⟨g, cap, cur, cs', hb7, h1, h2, hg7, hlc, hcm, hcu, hta⟩ := HP.out
      have hcells : ∀ i : Nat, i < 3 → wr.cell? ⟨g, i, none⟩ = some (.int .u8 (([2, x, y] : List Int).getD i 0)) := fun i hi => by
        rw [xb_cell hg7, ← Array.getElem?_toList]
        have e : cur.toList[i]? = (nums .u8 [2, x, y])[i]? := by rw [← hta, List.getElem?_take, if_pos hi]
        rw [e]
        rcases i with _ | _ | _ | i
        · rfl
        · rfl
        · rfl
        · omega
      have HO := Lib.hid (output_ok w.heap.size g cap wr ((xb_cell hb7 1).trans h1) ((xb_cell hb7 2).trans h2) hlc (by unfold maxLen at hcm; exact hcm))
      have HC2 := Lib.hid (fun n => Tryd.bytes_Clone_at ⟨g, 0, none⟩ 3 cap [2, x, y] (wr.drewN n) rfl (by omega) (fun i hi => by
        have h4 : (wr.drewN n).cell? ⟨g, i, none⟩ = some (.int .u8 (([2, x, y] : List Int).getD i 0)) := hcells i hi
        unfold Addr.add
        split
        · rename_i hz
          have hz' : i = 0 := by simpa using hz
          subst hz'
          exact h4
        · simpa using h4))
      clear hb7 h1 h2 hg7 hlc hcm hcu hta hcells HP s0 s1 s2 s3 s4 s5 s6 s7 s8
      go_wp2_with (first | (go_at_call 47; (with_reducible refine HO.out.mono ?_); rintro e w8 ⟨rfl, n8, rfl⟩) | (go_at_call 17; (with_reducible refine (HC2.out _).mono ?_); rintro e w9 ⟨v9, rfl, hown, hne, hb9⟩; have HO9 := Lib.hid hown; have HB9 := Lib.hid hb9; clear hown hne hb9))
      go_ret
      have hB : Below wr.heap.size wr w9 := (bl_drewN wr n8).trans (HB9.out.mono (Nat.le_refl _))
      exact ⟨v9, rfl, Ses.R_clone HO9.out rfl w.heap.size HBr.out.size, HBr.out.trans (hB.mono HBr.out.size)⟩
end Go.Proofs.YtdnahdddkagfhaaDoor.X
/- bytes.Equal (as the kit's print writes it), and laws.sessionLive. -/
namespace Go.Proofs.YtdnahdddkagfhaaDoor.X
open Go.RowKit Go.Proofs.YtdnahdddkagfhaaDoorW.PrintWords Go.Proofs.YtdnahdddkagfhaaDoorW.PrintLast Go.Proofs.YtdnahdddkagfhaaDoorW.PrintMore
attribute [local go_sem] setCell_drewN alloc_drewN
set_option linter.unusedVariables false
set_option linter.unusedSimpArgs false
def bytes_Equal.f (l0 : List Int) (l1 : List Int) : Option (Bool) := some ((strOfNums l0).toList == (strOfNums l1).toList)
set_option maxHeartbeats 8000000 in
set_option maxRecDepth 100000 in
theorem bytes_Equal.calls (A0 : Option Addr) (c0 : Nat) (l0 : List Int) (A1 : Option Addr) (c1 : Nat) (l1 : List Int) (r : Bool) (w : World) (hr0 : Kd.C (Kd.int .u8) w A0 l0.length l0) (hc0 : l0.length ≤ c0) (hr1 : Kd.C (Kd.int .u8) w A1 l1.length l1) (hc1 : l1.length ≤ c1) (h : bytes_Equal.f l0 l1 = some r) :
    Calls Tryd.prog 19 #[.slice A0 l0.length c0, .slice A1 l1.length c1] w fun e w' => e = .returned (.bool r) ∧ Drawn0 w w' := by
  have HR0 := Aside0.mk hr0
  have HC0 := Aside0.mk hc0
  clear hr0 hc0
  have HR1 := Aside0.mk hr1
  have HC1 := Aside0.mk hc1
  clear hr1 hc1
  have H : (some ((strOfNums l0).toList == (strOfNums l1).toList)) = some r := h
  clear h
  obtain rfl := Option.some.inj H
  have hcv3 := Kd.C_string (P := Tryd.prog) (A := A0) (c := c0) Tryd.underlying22 Tryd.underlying5 Tryd.underlying9 HR0.out
  have hcv4 := Kd.C_string (P := Tryd.prog) (A := A1) (c := c1) Tryd.underlying22 Tryd.underlying5 Tryd.underlying9 HR1.out
  go_enter Tryd.func19, Tryd.ntmps19
  go_wp2
  go_ret
  exact ⟨by first | rfl | (simp; done) | (simp [*]; done), by repeat (first | exact Drawn0.refl _ | apply Drawn0.step)⟩
/-- Bytes that are equal to those of a row written out. -/
theorem eq_lit (l : List Int) (hl : l.length ≤ 1000) (A : Option Addr) (c : Nat) (W : World) (hC : Kd.C (Kd.int .u8) W A l.length l) (hc : l.length ≤ c) :
    Calls Tryd.prog 19 #[.slice A l.length c, .slice (some ⟨W.heap.size, 0, none⟩) l.length l.length] (W.alloc (.cells (l.map (Value.int .u8)).toArray 5)) fun e w' => e = .returned (.bool true) ∧ Drawn0 (W.alloc (.cells (l.map (Value.int .u8)).toArray 5)) w' := by
  refine bytes_Equal.calls A c l _ _ l true _ (Kd.C_alloc hC _) hc (C_of (by omega) fun i hi => ?_) (Nat.le_refl _) (by simp [bytes_Equal.f])
  rw [xb_cell (xb_new _ _), Nat.zero_add, List.getElem?_toArray, List.getElem?_map, List.getElem?_eq_getElem hi, List.getD_eq_getElem?_getD, List.getElem?_eq_getElem hi]
  rfl
theorem eq_litB (l : List Int) (hl : l.length ≤ 1000) (A : Option Addr) (c : Nat) (W : World) (hC : Kd.C (Kd.int .u8) W A l.length l) (hc : l.length ≤ c) :
    Calls Tryd.prog 19 #[.slice A l.length c, .slice (some ⟨W.heap.size, 0, none⟩) l.length l.length] (W.alloc (.cells (l.map (Value.int .u8)).toArray 5)) fun e w' => e = .returned (.bool true) ∧ Below W.heap.size W w' := by
  refine (eq_lit l hl A c W hC hc).mono ?_
  rintro e w' ⟨rfl, n, rfl⟩
  exact ⟨rfl, (below_alloc (Below.refl _ _) _).trans ((bl_drewN _ n).mono (by rw [World.size_alloc]; omega))⟩
set_option maxHeartbeats 4000000 in
set_option maxRecDepth 100000 in
theorem sessionLive_calls (w : World) : Calls Tryd.prog 14 #[] w fun e w' => e = .returned (.bool true) ∧ Below w.heap.size w w' := by
  have HPut : Hid (Calls Tryd.prog 16 #[.slice (some ⟨w.heap.size + 1, 0, none⟩) 1 1, .bool false, .int .i64 64] ((w.alloc (.cells #[.int .u8 7, .int .u8 8] 5)).alloc (.cells #[.int .i64 1, .slice (some ⟨w.heap.size, 0, none⟩) 2 2, .slice none 0 0, .int .i64 0, .int .u64 0, .int .u8 0, .int .u8 0, .bool false, .bool false] 29)) fun e w' => ∃ v, e = .returned v ∧ Kd.R (Kd.int .u8) 5 w' ((w.alloc (.cells #[.int .u8 7, .int .u8 8] 5)).alloc (.cells #[.int .i64 1, .slice (some ⟨w.heap.size, 0, none⟩) 2 2, .slice none 0 0, .int .i64 0, .int .u64 0, .int .u8 0, .int .u8 0, .bool false, .bool false] 29)).heap.size (fun _ => True) v [2, 7, 8] ∧ Below ((w.alloc (.cells #[.int .u8 7, .int .u8 8] 5)).alloc (.cells #[.int .i64 1, .slice (some ⟨w.heap.size, 0, none⟩) 2 2, .slice none 0 0, .int .i64 0, .int .u64 0, .int .u8 0, .int .u8 0, .bool false, .bool false] 29)).heap.size ((w.alloc (.cells #[.int .u8 7, .int .u8 8] 5)).alloc (.cells #[.int .i64 1, .slice (some ⟨w.heap.size, 0, none⟩) 2 2, .slice none 0 0, .int .i64 0, .int .u64 0, .int .u8 0, .int .u8 0, .bool false, .bool false] 29)) w') := Lib.hid (by
    have hb := xb_new (w.alloc (.cells #[.int .u8 7, .int .u8 8] 5)) (.cells #[.int .i64 1, .slice (some ⟨w.heap.size, 0, none⟩) 2 2, .slice none 0 0, .int .i64 0, .int .u64 0, .int .u8 0, .int .u8 0, .bool false, .bool false] 29)
    rw [World.size_alloc] at hb
    refine put_two 7 8 false 64 _ (w.heap.size + 1) w.heap.size 2 ?_ ?_ ?_ ?_ ?_ ?_ ?_ ?_ ?_ (fun i hi => ?_)
    all_goals first | (rw [xb_cell hb]; rfl) | skip
    refine cell_alloc _ ?_
    rw [xb_cell (xb_new _ _)]
    rcases i with _ | _ | i
    · rfl
    · rfl
    · omega)
  have HGet : Hid (∀ W : World, Calls Tryd.prog 18 #[.slice (some ⟨W.heap.size, 0, none⟩) 4 4, .slice (some ⟨W.heap.size + 1, 0, none⟩) 1 1, .bool false] ((W.alloc (.cells #[.int .u8 2, .int .u8 7, .int .u8 8, .int .u8 9] 5)).alloc (.cells #[.int .i64 2, .int .i64 0, .bool false, .bool false] 35)) fun e w' => ∃ dA dn dc g2 c2 v2, e = .returned (.tuple #[.slice (some ⟨g2, 0, none⟩) 1 c2, v2]) ∧ (w'.cell? ⟨g2, 0, none⟩ = some (.bool true) ∧ w'.cell? ⟨g2, 1, none⟩ = some (.slice dA dn dc) ∧ w'.cell? ⟨g2, 3, none⟩ = some (.int .i64 0)) ∧ Ses.Data [7, 8] w' (.slice dA dn dc) ∧ Kd.R (Kd.int .u8) 5 w' ((W.alloc (.cells #[.int .u8 2, .int .u8 7, .int .u8 8, .int .u8 9] 5)).alloc (.cells #[.int .i64 2, .int .i64 0, .bool false, .bool false] 35)).heap.size (fun _ => True) v2 [9] ∧ Below ((W.alloc (.cells #[.int .u8 2, .int .u8 7, .int .u8 8, .int .u8 9] 5)).alloc (.cells #[.int .i64 2, .int .i64 0, .bool false, .bool false] 35)).heap.size ((W.alloc (.cells #[.int .u8 2, .int .u8 7, .int .u8 8, .int .u8 9] 5)).alloc (.cells #[.int .i64 2, .int .i64 0, .bool false, .bool false] 35)) w') := Lib.hid (fun W => by
    have hb := xb_new (W.alloc (.cells #[.int .u8 2, .int .u8 7, .int .u8 8, .int .u8 9] 5)) (.cells #[.int .i64 2, .int .i64 0, .bool false, .bool false] 35)
    rw [World.size_alloc] at hb
    refine get_one (Ses.Data [7, 8]) (Ses.Data_below [7, 8]) 2 0 false false false [2, 7, 8, 9] 3 0 (by decide) (by decide) (by decide) (fun W2 b g c hrs => ?_) _ ⟨W.heap.size, 0, none⟩ 4 (W.heap.size + 1) (fun i hi => ?_) ?_ ?_ ?_ ?_
    · exact got_clr_short W2 b g c [2, 7, 8, 9] 0 2 false 64 hrs (by decide) (by decide) rfl (by decide)
    · have hi' : i < 4 := hi
      refine cell_alloc _ ?_
      have hn := xb_new W (.cells #[.int .u8 2, .int .u8 7, .int .u8 8, .int .u8 9] 5)
      rcases i with _ | _ | _ | _ | i
      · exact xb_cell hn 0
      · exact xb_cell hn 1
      · exact xb_cell hn 2
      · exact xb_cell hn 3
      · omega
    all_goals (rw [xb_cell hb]; rfl))
  have HB0 : Hid (Below w.heap.size w ((w.alloc (.cells #[.int .u8 7, .int .u8 8] 5)).alloc (.cells #[.int .i64 1, .slice (some ⟨w.heap.size, 0, none⟩) 2 2, .slice none 0 0, .int .i64 0, .int .u64 0, .int .u8 0, .int .u8 0, .bool false, .bool false] 29))) := Lib.hid (below_alloc (below_alloc (Below.refl _ _) _) _)
  have HE1 : Hid (∀ (A : Option Addr) (c : Nat) (W : World), Kd.C (Kd.int .u8) W A 3 [2, 7, 8] → 3 ≤ c → Calls Tryd.prog 19 #[.slice A 3 c, .slice (some ⟨W.heap.size, 0, none⟩) 3 3] (W.alloc (.cells #[.int .u8 2, .int .u8 7, .int .u8 8] 5)) fun e w' => e = .returned (.bool true) ∧ Below W.heap.size W w') := Lib.hid (fun A c W hC hc => eq_litB [2, 7, 8] (by decide) A c W hC hc)
  have HE2 : Hid (∀ (A : Option Addr) (c : Nat) (W : World), Kd.C (Kd.int .u8) W A 2 [7, 8] → 2 ≤ c → Calls Tryd.prog 19 #[.slice A 2 c, .slice (some ⟨W.heap.size, 0, none⟩) 2 2] (W.alloc (.cells #[.int .u8 7, .int .u8 8] 5)) fun e w' => e = .returned (.bool true) ∧ Below W.heap.size W w') := Lib.hid (fun A c W hC hc => eq_litB [7, 8] (by decide) A c W hC hc)
  have HE3 : Hid (∀ (A : Option Addr) (c : Nat) (W : World), Kd.C (Kd.int .u8) W A 1 [9] → 1 ≤ c → Calls Tryd.prog 19 #[.slice A 1 c, .slice (some ⟨W.heap.size, 0, none⟩) 1 1] (W.alloc (.cells #[.int .u8 9] 5)) fun e w' => e = .returned (.bool true) ∧ Below W.heap.size W w') := Lib.hid (fun A c W hC hc => eq_litB [9] (by decide) A c W hC hc)
  go_enter Tryd.func14, Tryd.ntmps14
  go_wp2_with (first | (go_at_call 16; (with_reducible refine HPut.out.mono ?_); rintro e w1 ⟨v1, rfl, hR1, hb1⟩; obtain ⟨A1, c1, rfl, hle1, hC1⟩ := Kd.R_reads hR1; have HC1 := Lib.hid hC1; have HB1 := Lib.hid (HB0.out.trans (hb1.mono HB0.out.size)); clear hR1 hb1 hC1) | (go_at_call 18; (with_reducible refine (HGet.out _).mono ?_); rintro e w2 ⟨dA, dn, dc, g2, c2, v2, rfl, ⟨k0, k1, k3⟩, ⟨bd, hDd⟩, hRr, hb2⟩; obtain ⟨hdn, hdc, hCd⟩ := Kd.R_reads' hDd; (have hdn2 : dn = 2 := hdn); subst hdn2; obtain ⟨A3, c3, rfl, hle3, hC3⟩ := Kd.R_reads hRr; have HB2 := Lib.hid ((below_alloc (below_alloc (Below.refl _ _) _) _ : Below w1.heap.size w1 _).trans (hb2.mono (below_alloc (below_alloc (Below.refl w1.heap.size w1) _) _).size)); have HC1b := Lib.hid (Kd.C_below HC1.out HB2.out); have HCd := Lib.hid hCd; have HC3 := Lib.hid hC3; have HBb := Lib.hid (HB1.out.trans (HB2.out.mono HB1.out.size)); clear hDd hRr hb2 hCd hC3) | (go_at_call 19; (with_reducible refine (HE1.out _ _ _ HC1b.out hle1).mono ?_); rintro e w3 ⟨rfl, hb3⟩; have k0a := bl_cell hb3 k0; have k1a := bl_cell hb3 k1; have HCd3 := Lib.hid (Kd.C_below HCd.out hb3); have HC33 := Lib.hid (Kd.C_below HC3.out hb3); have HBc := Lib.hid (HBb.out.trans (hb3.mono HBb.out.size)); clear hb3) | (go_at_call 19; (with_reducible refine (HE2.out _ _ _ HCd3.out hdc).mono ?_); rintro e w4 ⟨rfl, hb4⟩; have HC34 := Lib.hid (Kd.C_below HC33.out hb4); have HBd := Lib.hid (HBc.out.trans (hb4.mono HBc.out.size)); clear hb4) | (go_at_call 19; (with_reducible refine (HE3.out _ _ _ HC34.out hle3).mono ?_); rintro e w5 ⟨rfl, hb5⟩; have HBe := Lib.hid (HBd.out.trans (hb5.mono HBd.out.size)); clear hb5))
  go_ret
  exact ⟨rfl, HBe.out⟩
end Go.Proofs.YtdnahdddkagfhaaDoor.X
/- Compressed numbers are read: Peek, impl.long, GetInt64. -/
namespace Go.Proofs.YtdnahdddkagfhaaDoor.X
open Go.RowKit Go.Proofs.YtdnahdddkagfhaaDoorW.PrintWords Go.Proofs.YtdnahdddkagfhaaDoorW.PrintLast Go.Proofs.YtdnahdddkagfhaaDoorW.PrintMore
attribute [local go_sem] setCell_drewN alloc_drewN
set_option linter.unusedVariables false
set_option linter.unusedSimpArgs false
set_option maxHeartbeats 2000000 in
set_option maxRecDepth 100000 in
theorem peek_one (w : World) (b g c : Nat) (l : List Int) (idx : Nat) (big : Bool) (chunk : Int) (h : Ses.RS w b g c l idx big chunk) (hk : idx + 1 ≤ l.length) :
    Calls Tryd.prog 78 #[.pointer (some ⟨b, 0, none⟩), .int .i64 1] w fun e w' => e = .returned (.tuple #[.slice (some ⟨g, idx, none⟩) 1 (c - idx), .nilIface]) ∧ Ses.RS w' b g c l idx big chunk ∧ w.grownBy w' (some b) := by
  have hr := read_ok w b g c l idx 1 big chunk h hk (by omega)
  rw [show ((1 : Nat) : Int) = 1 from rfl] at hr
  have HR := Lib.hid hr
  have c4 := h.c4
  clear h hr
  go_enter Tryd.func78, Tryd.ntmps78
  go_wp2_with (go_at_call 82; (with_reducible refine HR.out.mono ?_); rintro e w1 ⟨rfl, hrs, hg⟩; have d4 := hrs.c4; have f4 := blk_free hrs.blk 4; have HRS := Lib.hid hrs; have HG := Lib.hid hg; clear hrs hg)
  go_ret2
  exact ⟨rfl, HRS.out.put idx, grown_set HG.out⟩
set_option maxHeartbeats 2000000 in
set_option maxRecDepth 100000 in
theorem long_ok (w : World) (b g c : Nat) (l : List Int) (idx : Nat) (big : Bool) (chunk x m : Int) (h : Ses.RS w b g c l idx big chunk) (hk : idx + 1 ≤ l.length) (hx : l.getD idx 0 = x) (hm : Go.bits .and .u8 x 127 = m) (hm8 : m ≤ 8) :
    Calls Tryd.prog 71 #[.pointer (some ⟨b, 0, none⟩)] w fun e w' => e = .returned (.bool false) ∧ Ses.RS w' b g c l idx big chunk ∧ w.grownBy w' (some b) := by
  have HP := Lib.hid (peek_one w b g c l idx big chunk h hk)
  have HC := Lib.hid (fun W (hw : Ses.RS W b g c l idx big chunk) => (hw.cells idx (by omega)).trans (by rw [hx]))
  have dm : decide (8 < m) = false := decide_eq_false (by omega)
  clear h hk hx
  go_enter Tryd.func71, Tryd.ntmps71
  go_wp2_with (go_at_call 78; (with_reducible refine HP.out.mono ?_); rintro e w1 ⟨rfl, hrs, hg⟩; have x0 := HC.out _ hrs; have HRS := Lib.hid hrs; have HG := Lib.hid hg; clear hrs hg)
  go_ret
  exact ⟨rfl, HRS.out, HG.out⟩
/-- The eight bytes of a number of m bytes, the most significant one ahead. -/
def Ses.eight (xs : List Int) : List Int := List.replicate (8 - xs.length) 0 ++ xs
def Ses.beVal (xs : List Int) : Int := (Lib.beNat ((Ses.eight xs).map fun y => UInt8.ofNat y.toNat) : Int)
def Ses.zeros8 : Array Value := #[.int .u8 0, .int .u8 0, .int .u8 0, .int .u8 0, .int .u8 0, .int .u8 0, .int .u8 0, .int .u8 0]
theorem Ses.make8 (W : World) : (Instr.makeSlice 22 (.int .i64 8) (.int .i64 8)).run Tryd.prog W = .ok (.slice (some ⟨W.heap.size, 0, none⟩) 8 8) (W.alloc (.cells Ses.zeros8 5)) := by
  have hi5 : (Tryd.prog.info? 5).map (fun i => (i.zero, i.size, i.bytes)) = some (some (.int .u8 0), 1, 1) := by kernel_rfl
  obtain ⟨i0, hi, hz0, hz1, hz2⟩ := info_parts hi5
  have h := run_makeSlice (P := Tryd.prog) W 22 5 i0 (.int .u8 0) Tryd.underlying22 hi hz0 .i64 .i64 8 8 (by omega) (by omega) (by rw [hz1]; decide) (by rw [hz2]; decide) (by decide)
  rw [hz1] at h
  have e : madeCells (Value.int .u8 0).cells ((8 : Int).toNat * 1) = Ses.zeros8 := by
    apply Array.ext'
    unfold madeCells
    rw [Array.toList_map, Array.toList_range]
    rfl
  rw [e] at h
  exact h
/-- The row of eight behind the copy. -/
theorem Ses.eight_row (xs : List Int) (h : xs.length ≤ 8) : (Ses.zeros8.toList.take (8 - xs.length) ++ nums .u8 xs ++ Ses.zeros8.toList.drop (8 - xs.length + (nums .u8 xs).length)).toArray = (nums .u8 (Ses.eight xs)).toArray := by
  have hl : (nums .u8 xs).length = xs.length := nums_length ..
  have e : Ses.zeros8.toList = List.replicate 8 (Value.int .u8 0) := rfl
  rw [hl, e, show 8 - xs.length + xs.length = 8 by omega]
  unfold Ses.eight
  simp only [nums, List.map_append, List.map_replicate, List.take_replicate, List.drop_replicate, Nat.sub_self, List.replicate_zero, List.append_nil]
  rw [show min (8 - xs.length) 8 = 8 - xs.length by omega]
theorem Ses.eight_cells (xs : List Int) (h : xs.length ≤ 8) (i : Nat) (hi : i < 8) (hb : ∀ x ∈ xs, 0 ≤ x ∧ x ≤ 255) : ((nums .u8 (Ses.eight xs)).toArray)[i]? = some (.int .u8 ((((Ses.eight xs).map fun y => UInt8.ofNat y.toNat).getD i 0).toNat : Int)) := by
  have hlen : (Ses.eight xs).length = 8 := by unfold Ses.eight; rw [List.length_append, List.length_replicate]; omega
  have hby : ∀ y ∈ Ses.eight xs, 0 ≤ y ∧ y ≤ 255 := by
    intro y hy
    unfold Ses.eight at hy
    rcases List.mem_append.1 hy with hy | hy
    · rw [(List.mem_replicate.1 hy).2]; omega
    · exact hb y hy
  generalize Ses.eight xs = ys at hlen hby ⊢
  rw [List.getElem?_toArray]
  unfold nums
  rw [List.getElem?_map, List.getElem?_eq_getElem (by omega), List.getD_eq_getElem?_getD, List.getElem?_map, List.getElem?_eq_getElem (by omega)]
  have h1 := hby _ (List.getElem_mem (show i < ys.length by omega))
  simp only [Option.map_some, Option.getD_some]
  rw [UInt8.toNat_ofNat']
  congr 2
  omega
set_option maxHeartbeats 4000000 in
set_option maxRecDepth 100000 in
theorem getInt64_minus (w : World) (b g c : Nat) (l : List Int) (idx m : Nat) (big sb : Bool) (chunk x size : Int) (h : Ses.RS w b g c l idx big chunk) (hm0 : 0 < m) (hm8 : m ≤ 8) (hx : l.getD idx 0 = x) (e1 : Go.bits .and .i64 x 128 = 128) (e2 : Go.bits .and .i64 x 127 = m) (hlen : idx + 1 + m ≤ l.length) (hby : ∀ y ∈ l, 0 ≤ y ∧ y ≤ 255) :
    Calls Tryd.prog 73 #[.pointer (some ⟨b, 0, none⟩), .int .i64 size, .bool true, .bool sb] w fun e w' => e = .returned (.tuple #[.int .i64 (wrap64 (-wrap64 (Ses.beVal ((l.drop (idx + 1)).take m)))), .nilIface]) ∧ Ses.RS w' b g c l (idx + 1 + m) big chunk ∧ w.grownBy w' (some b) := by
  have hr := read_ok w b g c l idx 1 big chunk h (by omega) (by omega)
  rw [show ((1 : Nat) : Int) = 1 from rfl] at hr
  have HR1 := Lib.hid hr
  have HC := Lib.hid (fun W (hw : Ses.RS W b g c l (idx + 1) big chunk) => (hw.cells idx (by omega)).trans (by rw [hx]))
  have HR2f := Lib.hid (fun W (hw : Ses.RS W b g c l (idx + 1) big chunk) => read_ok W b g c l (idx + 1) m big chunk hw hlen hm0)
  obtain ⟨xs, hxs⟩ : ∃ xs, xs = (l.drop (idx + 1)).take m := ⟨_, rfl⟩
  rw [← hxs]
  have hxl : xs.length = m := by rw [hxs, List.length_take, List.length_drop]; omega
  have hxb : ∀ y ∈ xs, 0 ≤ y ∧ y ≤ 255 := fun y hy => hby y (by rw [hxs] at hy; exact List.mem_of_mem_drop (List.mem_of_mem_take hy))
  have hinfo : (Tryd.prog.info? 5).map (·.size) = some 1 := by kernel_rfl
  have HIn : Hid (∀ W : World, Ses.RS W b g c l (idx + 1 + m) big chunk → ∀ j v, (nums .u8 xs)[j]? = some v → W.cell? ((⟨g, idx + 1, none⟩ : Addr).add j) = some v) := Lib.hid (fun W hW j v hv => by
    unfold nums at hv
    rw [List.getElem?_map] at hv
    have hj : j < xs.length := by
      by_cases hj : j < xs.length
      · exact hj
      · rw [List.getElem?_eq_none (by omega)] at hv
        cases hv
    rw [Ses.drop_cells hW.cells (idx := idx + 1) j (by omega)]
    rw [List.getElem?_eq_getElem hj] at hv
    have e : (l.drop (idx + 1)).getD j 0 = xs[j] := by
      simp only [hxs, List.getElem_take]
      rw [List.getD_eq_getElem?_getD, List.getElem?_eq_getElem]
      rfl
    rw [e]
    exact hv)
  have HCp : Hid (∀ W : World, Ses.RS W b g c l (idx + 1 + m) big chunk → (Builtin.copy_ #[22, 22] 3 #[.slice (some ⟨W.heap.size, 8 - m, none⟩) m m, .slice (some ⟨g, idx + 1, none⟩) m (c - (idx + 1))]).run Tryd.prog (W.alloc (.cells Ses.zeros8 5)) = .ok (goInt m) ((W.alloc (.cells Ses.zeros8 5)).setRow W.heap.size (nums .u8 (Ses.eight xs)).toArray)) := Lib.hid (fun W hW => by
    have hln : (nums .u8 xs).length = m := (nums_length ..).trans hxl
    have hc := run_copy_row (P := Tryd.prog) (W.alloc (.cells Ses.zeros8 5)) 22 22 3 5 W.heap.size (8 - m) m m ⟨g, idx + 1, none⟩ m (c - (idx + 1)) Ses.zeros8 5 (nums .u8 xs) Tryd.underlying22 hinfo (xb_new _ _) (by rw [hln]; exact (Nat.min_self _).symm) (fun j v hj => cell_alloc _ (HIn.out W hW j v hj)) (by rw [hln]; show 8 - m + m ≤ 8; omega) (nums_one xs)
    have he := Ses.eight_row xs (by omega)
    rw [hxl] at he
    rw [he, hln] at hc
    exact hc)
  have HBE : Hid (∀ W : World, Calls Tryd.prog 83 #[.agg #[], .slice (some ⟨W.heap.size, 0, none⟩) 8 8] ((W.alloc (.cells Ses.zeros8 5)).setRow W.heap.size (nums .u8 (Ses.eight xs)).toArray) fun e w' => e = .returned (.int .u64 (Ses.beVal xs)) ∧ Below W.heap.size W w') := Lib.hid (fun W => by
    have hW3 : Below W.heap.size W ((W.alloc (.cells Ses.zeros8 5)).setRow W.heap.size (nums .u8 (Ses.eight xs)).toArray) := below_setRow (below_alloc (Below.refl _ _) _) (Nat.le_refl _) _
    obtain ⟨W3, hW⟩ : ∃ W3, W3 = (W.alloc (.cells Ses.zeros8 5)).setRow W.heap.size (nums .u8 (Ses.eight xs)).toArray := ⟨_, rfl⟩
    rw [← hW] at hW3 ⊢
    suffices key : Calls Tryd.prog 83 #[.agg #[], .slice (some ⟨W.heap.size, 0, none⟩) 8 8] W3 (fun e w' => e = .returned (.int .u64 (Ses.beVal xs)) ∧ Below W3.heap.size W3 w') from key.mono (fun e w' h => ⟨h.1, hW3.trans (h.2.mono hW3.size)⟩)
    have hrow : W3.heap[W.heap.size]? = some (.cells (nums .u8 (Ses.eight xs)).toArray 5 (0, 0)) := by rw [hW]; exact setRow_heap _ _ Ses.zeros8 _ _ _ (xb_new _ _)
    have hc : ∀ i, i < 8 → W3.cell? ⟨W.heap.size, 0 + i, none⟩ = some (.int .u8 ((((Ses.eight xs).map fun y => UInt8.ofNat y.toNat).getD i 0).toNat : Int)) := fun i hi => by
      rw [Nat.zero_add, xb_cell hrow]
      exact Ses.eight_cells xs (by omega) i hi hxb
    have hlen8 : ((Ses.eight xs).map fun y => UInt8.ofNat y.toNat).length = 8 := by rw [List.length_map]; unfold Ses.eight; rw [List.length_append, List.length_replicate]; omega
    have hbe := Tryd.binary_BE_Uint64 W.heap.size 0 8 8 _ _ _ _ _ _ _ _ W3 (Nat.le_refl _) (hc 0 (by omega)) (hc 1 (by omega)) (hc 2 (by omega)) (hc 3 (by omega)) (hc 4 (by omega)) (hc 5 (by omega)) (hc 6 (by omega)) (hc 7 (by omega))
    unfold Ses.beVal
    generalize ((Ses.eight xs).map fun y => UInt8.ofNat y.toNat) = bs at hlen8 hbe ⊢
    match bs, hlen8 with
    | [a0, a1, a2, a3, a4, a5, a6, a7], _ => exact hbe)
  have hmk := Ses.make8
  have hx0 : 0 ≤ x ∧ x ≤ 255 := by
    rw [← hx, List.getD_eq_getElem?_getD, List.getElem?_eq_getElem (by omega)]
    exact hby _ (List.getElem_mem _)
  have hx1 := hx0.1
  have hx2 := hx0.2
  have hxw : wrap64 x = x := by unfold wrap64; omega
  generalize Ses.beVal xs = V at *
  have k0 : (0 : Int) ≤ (8 : Int) - (m : Int) := by omega
  have k1 : (8 : Int) - (m : Int) ≤ 8 := by omega
  have k2 : ((8 : Int) - (m : Int)).toNat = 8 - m := by omega
  have k3 : IntKind.i64.wrap ((8 : Int) - (m : Int)) = (8 : Int) - (m : Int) := (IntKind.wrap_i64 _).trans (by omega)
  have k4 : ((m : Int) == 0) = false := beq_eq_false_iff_ne.2 (by omega)
  have k5 : (8 = 8 - m) = False := eq_false (by omega)
  have k6 : 8 - (8 - m) = m := by omega
  clear hr h hlen hx hxs hxb hby hx0
  go_enter Tryd.func73, Tryd.ntmps73
  go_wp2_with (first | (go_at_call 82; (with_reducible refine HR1.out.mono ?_); rintro e w1 ⟨rfl, hrs, hg⟩; have x0 := HC.out _ hrs; have HRS := Lib.hid hrs; have HG := Lib.hid hg; have HR2 := Lib.hid (HR2f.out _ hrs); clear hrs hg) | (go_at_call 82; (with_reducible refine HR2.out.mono ?_); rintro e w2 ⟨rfl, hrs, hg⟩; have HS2 := Lib.hid hrs; have HG2 := Lib.hid hg; have hcp := HCp.out _ hrs; clear hrs hg) | (go_at_call 83; (with_reducible refine (HBE.out _).mono ?_); rintro e w4 ⟨rfl, hb4⟩; have HB4 := Lib.hid hb4; clear hb4))
  go_ret2
  exact ⟨rfl, HS2.out.bl HB4.out, grown_bl (grown_trans HG.out HG2.out) HB4.out⟩
set_option maxHeartbeats 2000000 in
set_option maxRecDepth 100000 in
/-- The number that has no byte: 0, with the sign. -/
theorem getInt64_none (w : World) (b g c : Nat) (l : List Int) (idx : Nat) (big sb : Bool) (chunk size : Int) (h : Ses.RS w b g c l idx big chunk) (hx : l.getD idx 0 = 128) (hlen : idx + 1 ≤ l.length) :
    Calls Tryd.prog 73 #[.pointer (some ⟨b, 0, none⟩), .int .i64 size, .bool true, .bool sb] w fun e w' => e = .returned (.tuple #[.int .i64 0, .nilIface]) ∧ Ses.RS w' b g c l (idx + 1) big chunk ∧ w.grownBy w' (some b) := by
  have hr := read_ok w b g c l idx 1 big chunk h (by omega) (by omega)
  rw [show ((1 : Nat) : Int) = 1 from rfl] at hr
  have HR1 := Lib.hid hr
  have HC := Lib.hid (fun W (hw : Ses.RS W b g c l (idx + 1) big chunk) => (hw.cells idx (by omega)).trans (by rw [hx]))
  have e1 : Go.bits .and .i64 128 128 = 128 := by decide +kernel
  have e2 : Go.bits .and .i64 128 127 = 0 := by decide +kernel
  clear hr h hlen hx
  go_enter Tryd.func73, Tryd.ntmps73
  go_wp2_with (go_at_call 82; (with_reducible refine HR1.out.mono ?_); rintro e w1 ⟨rfl, hrs, hg⟩; have x0 := HC.out _ hrs; have HRS := Lib.hid hrs; have HG := Lib.hid hg; clear hrs hg)
  go_ret2
  exact ⟨rfl, HRS.out, HG.out⟩
end Go.Proofs.YtdnahdddkagfhaaDoor.X
/- impl.got: a step of a reader that gives a compressed number. -/
namespace Go.Proofs.YtdnahdddkagfhaaDoor.X
open Go.RowKit Go.Proofs.YtdnahdddkagfhaaDoorW.PrintWords Go.Proofs.YtdnahdddkagfhaaDoorW.PrintLast Go.Proofs.YtdnahdddkagfhaaDoorW.PrintMore
attribute [local go_sem] setCell_drewN alloc_drewN
set_option linter.unusedVariables false
set_option linter.unusedSimpArgs false
theorem Ses.got_block3 {w1 : World} {n1 n2 i1 i2 i3 i4 : Nat} {a0 a1 a2 a3 a4 : Value} {T : TypeId} (hne : n1 ≠ n2) (k1 : w1.heap[n1]? = some (.cells #[a0, a1, a2, a3, a4] T (0, 0))) (u1 u2 u3 u4 v0 v1 v2 v3 v4 : Value) :
    (((((((((w1.setCell ⟨n2, i1, none⟩ u1).setCell ⟨n2, i2, none⟩ u2).setCell ⟨n2, i3, none⟩ u3).setCell ⟨n2, i4, none⟩ u4).setCell ⟨n1, 0, none⟩ v0).setCell ⟨n1, 1, none⟩ v1).setCell ⟨n1, 2, none⟩ v2).setCell ⟨n1, 3, none⟩ v3).setCell ⟨n1, 4, none⟩ v4).drew.heap[n1]? = some (.cells #[v0, v1, v2, v3, v4] T (0, 0)) := by
  have e : ∀ W : World, W.drew.heap = W.heap := fun _ => rfl
  rw [e]
  have h0 := (blk_set_other (u := u4) (i := i4) hne).trans ((blk_set_other (u := u3) (i := i3) hne).trans ((blk_set_other (u := u2) (i := i2) hne).trans ((blk_set_other (u := u1) (i := i1) hne).trans k1)))
  have h5 := xb_set (xb_set (xb_set (xb_set (xb_set h0 0 v0) 1 v1) 2 v2) 3 v3) 4 v4
  simpa using h5
end Go.Proofs.YtdnahdddkagfhaaDoor.X
/- Compressed numbers without the sign; GetInt; impl.got by GetInt. -/
namespace Go.Proofs.YtdnahdddkagfhaaDoor.X
open Go.RowKit Go.Proofs.YtdnahdddkagfhaaDoorW.PrintWords Go.Proofs.YtdnahdddkagfhaaDoorW.PrintLast Go.Proofs.YtdnahdddkagfhaaDoorW.PrintMore
attribute [local go_sem] setCell_drewN alloc_drewN
set_option linter.unusedVariables false
set_option linter.unusedSimpArgs false
set_option maxHeartbeats 4000000 in
set_option maxRecDepth 100000 in
theorem getInt64_plus (w : World) (b g c : Nat) (l : List Int) (idx m : Nat) (big sb : Bool) (chunk x size : Int) (h : Ses.RS w b g c l idx big chunk) (hm0 : 0 < m) (hm8 : m ≤ 8) (hx : l.getD idx 0 = x) (e1 : Go.bits .and .i64 x 128 = 0) (hxm : x = m) (hlen : idx + 1 + m ≤ l.length) (hby : ∀ y ∈ l, 0 ≤ y ∧ y ≤ 255) :
    Calls Tryd.prog 73 #[.pointer (some ⟨b, 0, none⟩), .int .i64 size, .bool true, .bool sb] w fun e w' => e = .returned (.tuple #[.int .i64 (wrap64 (Ses.beVal ((l.drop (idx + 1)).take m))), .nilIface]) ∧ Ses.RS w' b g c l (idx + 1 + m) big chunk ∧ w.grownBy w' (some b) := by
  have hr := read_ok w b g c l idx 1 big chunk h (by omega) (by omega)
  rw [show ((1 : Nat) : Int) = 1 from rfl] at hr
  have HR1 := Lib.hid hr
  have HC := Lib.hid (fun W (hw : Ses.RS W b g c l (idx + 1) big chunk) => (hw.cells idx (by omega)).trans (by rw [hx]))
  have HR2f := Lib.hid (fun W (hw : Ses.RS W b g c l (idx + 1) big chunk) => read_ok W b g c l (idx + 1) m big chunk hw hlen hm0)
  obtain ⟨xs, hxs⟩ : ∃ xs, xs = (l.drop (idx + 1)).take m := ⟨_, rfl⟩
  rw [← hxs]
  have hxl : xs.length = m := by rw [hxs, List.length_take, List.length_drop]; omega
  have hxb : ∀ y ∈ xs, 0 ≤ y ∧ y ≤ 255 := fun y hy => hby y (by rw [hxs] at hy; exact List.mem_of_mem_drop (List.mem_of_mem_take hy))
  have hinfo : (Tryd.prog.info? 5).map (·.size) = some 1 := by kernel_rfl
  have HIn : Hid (∀ W : World, Ses.RS W b g c l (idx + 1 + m) big chunk → ∀ j v, (nums .u8 xs)[j]? = some v → W.cell? ((⟨g, idx + 1, none⟩ : Addr).add j) = some v) := Lib.hid (fun W hW j v hv => by
    unfold nums at hv
    rw [List.getElem?_map] at hv
    have hj : j < xs.length := by
      by_cases hj : j < xs.length
      · exact hj
      · rw [List.getElem?_eq_none (by omega)] at hv
        cases hv
    rw [Ses.drop_cells hW.cells (idx := idx + 1) j (by omega)]
    rw [List.getElem?_eq_getElem hj] at hv
    have e : (l.drop (idx + 1)).getD j 0 = xs[j] := by
      simp only [hxs, List.getElem_take]
      rw [List.getD_eq_getElem?_getD, List.getElem?_eq_getElem]
      rfl
    rw [e]
    exact hv)
  have HCp : Hid (∀ W : World, Ses.RS W b g c l (idx + 1 + m) big chunk → (Builtin.copy_ #[22, 22] 3 #[.slice (some ⟨W.heap.size, 8 - m, none⟩) m m, .slice (some ⟨g, idx + 1, none⟩) m (c - (idx + 1))]).run Tryd.prog (W.alloc (.cells Ses.zeros8 5)) = .ok (goInt m) ((W.alloc (.cells Ses.zeros8 5)).setRow W.heap.size (nums .u8 (Ses.eight xs)).toArray)) := Lib.hid (fun W hW => by
    have hln : (nums .u8 xs).length = m := (nums_length ..).trans hxl
    have hc := run_copy_row (P := Tryd.prog) (W.alloc (.cells Ses.zeros8 5)) 22 22 3 5 W.heap.size (8 - m) m m ⟨g, idx + 1, none⟩ m (c - (idx + 1)) Ses.zeros8 5 (nums .u8 xs) Tryd.underlying22 hinfo (xb_new _ _) (by rw [hln]; exact (Nat.min_self _).symm) (fun j v hj => cell_alloc _ (HIn.out W hW j v hj)) (by rw [hln]; show 8 - m + m ≤ 8; omega) (nums_one xs)
    have he := Ses.eight_row xs (by omega)
    rw [hxl] at he
    rw [he, hln] at hc
    exact hc)
  have HBE : Hid (∀ W : World, Calls Tryd.prog 83 #[.agg #[], .slice (some ⟨W.heap.size, 0, none⟩) 8 8] ((W.alloc (.cells Ses.zeros8 5)).setRow W.heap.size (nums .u8 (Ses.eight xs)).toArray) fun e w' => e = .returned (.int .u64 (Ses.beVal xs)) ∧ Below W.heap.size W w') := Lib.hid (fun W => by
    have hW3 : Below W.heap.size W ((W.alloc (.cells Ses.zeros8 5)).setRow W.heap.size (nums .u8 (Ses.eight xs)).toArray) := below_setRow (below_alloc (Below.refl _ _) _) (Nat.le_refl _) _
    obtain ⟨W3, hW⟩ : ∃ W3, W3 = (W.alloc (.cells Ses.zeros8 5)).setRow W.heap.size (nums .u8 (Ses.eight xs)).toArray := ⟨_, rfl⟩
    rw [← hW] at hW3 ⊢
    suffices key : Calls Tryd.prog 83 #[.agg #[], .slice (some ⟨W.heap.size, 0, none⟩) 8 8] W3 (fun e w' => e = .returned (.int .u64 (Ses.beVal xs)) ∧ Below W3.heap.size W3 w') from key.mono (fun e w' h => ⟨h.1, hW3.trans (h.2.mono hW3.size)⟩)
    have hrow : W3.heap[W.heap.size]? = some (.cells (nums .u8 (Ses.eight xs)).toArray 5 (0, 0)) := by rw [hW]; exact setRow_heap _ _ Ses.zeros8 _ _ _ (xb_new _ _)
    have hc : ∀ i, i < 8 → W3.cell? ⟨W.heap.size, 0 + i, none⟩ = some (.int .u8 ((((Ses.eight xs).map fun y => UInt8.ofNat y.toNat).getD i 0).toNat : Int)) := fun i hi => by
      rw [Nat.zero_add, xb_cell hrow]
      exact Ses.eight_cells xs (by omega) i hi hxb
    have hlen8 : ((Ses.eight xs).map fun y => UInt8.ofNat y.toNat).length = 8 := by rw [List.length_map]; unfold Ses.eight; rw [List.length_append, List.length_replicate]; omega
    have hbe := Tryd.binary_BE_Uint64 W.heap.size 0 8 8 _ _ _ _ _ _ _ _ W3 (Nat.le_refl _) (hc 0 (by omega)) (hc 1 (by omega)) (hc 2 (by omega)) (hc 3 (by omega)) (hc 4 (by omega)) (hc 5 (by omega)) (hc 6 (by omega)) (hc 7 (by omega))
    unfold Ses.beVal
    generalize ((Ses.eight xs).map fun y => UInt8.ofNat y.toNat) = bs at hlen8 hbe ⊢
    match bs, hlen8 with
    | [a0, a1, a2, a3, a4, a5, a6, a7], _ => exact hbe)
  have hmk := Ses.make8
  have hx0 : 0 ≤ x ∧ x ≤ 255 := by
    rw [← hx, List.getD_eq_getElem?_getD, List.getElem?_eq_getElem (by omega)]
    exact hby _ (List.getElem_mem _)
  have hx1 := hx0.1
  have hx2 := hx0.2
  have hxw : wrap64 x = x := by unfold wrap64; omega
  generalize Ses.beVal xs = V at *
  have k0 : (0 : Int) ≤ (8 : Int) - (m : Int) := by omega
  have k1 : (8 : Int) - (m : Int) ≤ 8 := by omega
  have k2 : ((8 : Int) - (m : Int)).toNat = 8 - m := by omega
  have k3 : IntKind.i64.wrap ((8 : Int) - (m : Int)) = (8 : Int) - (m : Int) := (IntKind.wrap_i64 _).trans (by omega)
  have k4 : ((m : Int) == 0) = false := beq_eq_false_iff_ne.2 (by omega)
  have k5 : (8 = 8 - m) = False := eq_false (by omega)
  have k6 : 8 - (8 - m) = m := by omega
  subst hxm
  clear hr h hlen hx hxs hxb hby hx0
  go_enter Tryd.func73, Tryd.ntmps73
  go_wp2_with (first | (go_at_call 82; (with_reducible refine HR1.out.mono ?_); rintro e w1 ⟨rfl, hrs, hg⟩; have x0 := HC.out _ hrs; have HRS := Lib.hid hrs; have HG := Lib.hid hg; have HR2 := Lib.hid (HR2f.out _ hrs); clear hrs hg) | (go_at_call 82; (with_reducible refine HR2.out.mono ?_); rintro e w2 ⟨rfl, hrs, hg⟩; have HS2 := Lib.hid hrs; have HG2 := Lib.hid hg; have hcp := HCp.out _ hrs; clear hrs hg) | (go_at_call 83; (with_reducible refine (HBE.out _).mono ?_); rintro e w4 ⟨rfl, hb4⟩; have HB4 := Lib.hid hb4; clear hb4))
  go_ret2
  exact ⟨rfl, HS2.out.bl HB4.out, grown_bl (grown_trans HG.out HG2.out) HB4.out⟩
set_option maxHeartbeats 2000000 in
set_option maxRecDepth 100000 in
/-- The number that has no byte: 0. -/
theorem getInt64_zero (w : World) (b g c : Nat) (l : List Int) (idx : Nat) (big sb : Bool) (chunk size : Int) (h : Ses.RS w b g c l idx big chunk) (hx : l.getD idx 0 = 0) (hlen : idx + 1 ≤ l.length) :
    Calls Tryd.prog 73 #[.pointer (some ⟨b, 0, none⟩), .int .i64 size, .bool true, .bool sb] w fun e w' => e = .returned (.tuple #[.int .i64 0, .nilIface]) ∧ Ses.RS w' b g c l (idx + 1) big chunk ∧ w.grownBy w' (some b) := by
  have hr := read_ok w b g c l idx 1 big chunk h (by omega) (by omega)
  rw [show ((1 : Nat) : Int) = 1 from rfl] at hr
  have HR1 := Lib.hid hr
  have HC := Lib.hid (fun W (hw : Ses.RS W b g c l (idx + 1) big chunk) => (hw.cells idx (by omega)).trans (by rw [hx]))
  have e1 : Go.bits .and .i64 0 128 = 0 := by decide +kernel
  have e2 : Go.bits .and .i64 0 127 = 0 := by decide +kernel
  clear hr h hlen hx
  go_enter Tryd.func73, Tryd.ntmps73
  go_wp2_with (go_at_call 82; (with_reducible refine HR1.out.mono ?_); rintro e w1 ⟨rfl, hrs, hg⟩; have x0 := HC.out _ hrs; have HRS := Lib.hid hrs; have HG := Lib.hid hg; clear hrs hg)
  go_ret2
  exact ⟨rfl, HRS.out, HG.out⟩
set_option maxHeartbeats 1000000 in
set_option maxRecDepth 100000 in
theorem getInt_of (W : World) (b : Nat) (size num : Int) (c1 sb : Bool) (Q : World → Prop) (h : Calls Tryd.prog 73 #[.pointer (some ⟨b, 0, none⟩), .int .i64 size, .bool c1, .bool sb] W fun e w' => e = .returned (.tuple #[.int .i64 num, .nilIface]) ∧ Q w') :
    Calls Tryd.prog 74 #[.pointer (some ⟨b, 0, none⟩), .int .i64 size, .bool c1, .bool sb] W fun e w' => e = .returned (.tuple #[.int .i64 num, .nilIface]) ∧ Q w' := by
  have H := Lib.hid h
  clear h
  go_enter Tryd.func74, Tryd.ntmps74
  go_wp2_with (go_at_call 73; (with_reducible refine H.out.mono ?_); rintro e w1 ⟨rfl, hq⟩; have HQ := Lib.hid hq; clear hq)
  go_ret2
  exact ⟨rfl, HQ.out⟩
end Go.Proofs.YtdnahdddkagfhaaDoor.X
/- A session reads: by what stands ahead in its input. -/
namespace Go.Proofs.YtdnahdddkagfhaaDoor.X
open Go.RowKit Go.Proofs.YtdnahdddkagfhaaDoorW.PrintWords Go.Proofs.YtdnahdddkagfhaaDoorW.PrintMore
attribute [local go_sem] setCell_drewN alloc_drewN
set_option linter.unusedVariables false
set_option linter.unusedSimpArgs false
namespace Ses
/-- These bytes stand at idx. -/
def Pre (l : List Int) (idx : Nat) (e : List Int) : Prop := idx ≤ l.length ∧ ∃ rest, l.drop idx = e ++ rest
theorem Pre.app {l : List Int} {idx : Nat} {a b : List Int} (h : Pre l idx (a ++ b)) : Pre l idx a ∧ Pre l (idx + a.length) b := by
  obtain ⟨h0, rest, hr⟩ := h
  refine ⟨⟨h0, b ++ rest, by rw [hr, List.append_assoc]⟩, ⟨?_, rest, ?_⟩⟩
  · have := congrArg List.length hr
    simp at this
    omega
  · rw [← List.drop_drop, hr, List.append_assoc, List.drop_left]
theorem Pre.len {l : List Int} {idx : Nat} {a : List Int} (h : Pre l idx a) : idx + a.length ≤ l.length := by
  obtain ⟨h0, rest, hr⟩ := h
  have := congrArg List.length hr
  simp at this
  omega
theorem Pre.take {l : List Int} {idx : Nat} {a : List Int} (h : Pre l idx a) : (l.drop idx).take a.length = a := by
  obtain ⟨h0, rest, hr⟩ := h
  rw [hr, List.take_left]
theorem Pre.cons {l : List Int} {idx : Nat} {x : Int} {a : List Int} (h : Pre l idx (x :: a)) : idx < l.length ∧ l.getD idx 0 = x ∧ Pre l (idx + 1) a := by
  have hl := h.len
  rw [List.length_cons] at hl
  obtain ⟨h0, rest, hr⟩ := h
  refine ⟨by omega, ?_, by omega, rest, ?_⟩
  · have e : l.getD idx 0 = (l.drop idx).getD 0 0 := by simp [List.getD_eq_getElem?_getD, List.getElem?_drop]
    rw [e, hr]
    rfl
  · rw [← List.drop_drop, hr]
    rfl
theorem Pre.cells {l : List Int} {idx : Nat} {a : List Int} (h : Pre l idx a) (i : Nat) (hi : i < a.length) : l.getD (idx + i) 0 = a.getD i 0 := by
  have ht := h.take
  have e : l.getD (idx + i) 0 = ((l.drop idx).take a.length).getD i 0 := by
    simp only [List.getD_eq_getElem?_getD]
    rw [List.getElem?_take, if_pos hi, List.getElem?_drop]
  rw [e, ht]
/-- Where a session stands in its input. -/
def idxOf (w : World) (b : Nat) : Nat := match w.cell? ⟨b, 4, none⟩ with
  | some v => (intOf v).toNat
  | none => 0
theorem RS.idxOf {w : World} {b g c : Nat} {l : List Int} {idx : Nat} {big : Bool} {chunk : Int} (h : RS w b g c l idx big chunk) : Ses.idxOf w b = idx := by
  unfold Ses.idxOf
  rw [h.c4]
  simp [intOf]
theorem RS.C {w : World} {b g c : Nat} {l : List Int} {idx : Nat} {big : Bool} {chunk : Int} (h : RS w b g c l idx big chunk) {i : Nat} {d : List Int} (hp : Pre l i d) : Kd.C (Kd.int .u8) w (some ⟨g, i, none⟩) d.length d := by
  have hl := hp.len
  have hm := h.max
  refine C_of (by omega) (fun k hk => ?_)
  rw [h.cells (i + k) (by omega), hp.cells k hk]
end Ses
set_option maxHeartbeats 4000000 in
set_option maxRecDepth 100000 in
/-- Nothing is read. -/
theorem read_zero (w : World) (b g c : Nat) (l : List Int) (idx : Nat) (big : Bool) (chunk : Int) (h : Ses.RS w b g c l idx big chunk) (hk : idx ≤ l.length) :
    Calls Tryd.prog 82 #[.pointer (some ⟨b, 0, none⟩), .int .i64 0] w fun e w' => (∃ o cc, e = .returned (.tuple #[.slice (some ⟨g, o, none⟩) 0 cc, .nilIface])) ∧ Ses.RS w' b g c l idx big chunk ∧ w.grownBy w' (some b) := by
  have HH := Lib.hid h
  have c0 := h.c0
  have c4 := h.c4
  have f4 := blk_free h.blk 4
  obtain ⟨hblk, hne, hcap, hcells, hmax, hlt⟩ := h
  clear hblk hcells
  have HN : Hid (l.length = l.length) := Lib.hid rfl
  generalize hn : l.length = n at *
  have p0 : (0 : Int) ≤ (idx : Int) := by omega
  have p2 : (idx : Int) ≤ (n : Int) := by omega
  have p4 : decide ((n : Int) < (idx : Int)) = false := decide_eq_false (by omega)
  have p7 : (idx : Int) ≤ (c : Int) := by omega
  have pw : IntKind.i64.wrap ((idx : Int) + 0) = (idx : Int) := by rw [Int.add_zero]; exact (IntKind.wrap_i64 _).trans (by omega)
  have pw2 : IntKind.i64.wrap (idx : Int) = (idx : Int) := (IntKind.wrap_i64 _).trans (by omega)
  by_cases hc : c = idx
  · have q1 : (c = idx) = True := eq_true hc
    have q2 : ((c : Int) = (idx : Int)) = True := eq_true (by omega)
    clear hc
    go_enter Tryd.func82, Tryd.ntmps82
    go_wp2
    go_region_held3 (fun w' => w'.cell? ⟨b, 0, none⟩ = some (.slice (some ⟨g, 0, none⟩) n c) ∧ w'.cell? ⟨b, 4, none⟩ = some (.int .i64 (idx : Int))) (first | exact ⟨c0, c4⟩) (first | fail)
    go_wp2
    go_region_held3 (fun w' => w'.cell? ⟨b, 0, none⟩ = some (.slice (some ⟨g, 0, none⟩) n c) ∧ w'.cell? ⟨b, 4, none⟩ = some (.int .i64 (idx : Int))) (first | exact ⟨c0, c4⟩) (first | fail)
    go_wp2
    go_ret2
    exact ⟨⟨_, _, rfl⟩, (HH.out.put idx).bl (below_drew (below_drew (Below.refl _ _))), (grown_set (grown_refl w (some b))).drew.drew⟩
  · have q1 : (c = idx) = False := eq_false hc
    have q2 : ((c : Int) = (idx : Int)) = False := eq_false (by omega)
    clear hc
    go_enter Tryd.func82, Tryd.ntmps82
    go_wp2
    go_region_held3 (fun w' => w'.cell? ⟨b, 0, none⟩ = some (.slice (some ⟨g, 0, none⟩) n c) ∧ w'.cell? ⟨b, 4, none⟩ = some (.int .i64 (idx : Int))) (first | exact ⟨c0, c4⟩) (first | fail)
    go_wp2
    go_region_held3 (fun w' => w'.cell? ⟨b, 0, none⟩ = some (.slice (some ⟨g, 0, none⟩) n c) ∧ w'.cell? ⟨b, 4, none⟩ = some (.int .i64 (idx : Int))) (first | exact ⟨c0, c4⟩) (first | fail)
    go_wp2
    go_ret2
    exact ⟨⟨_, _, rfl⟩, (HH.out.put idx).bl (below_drew (below_drew (Below.refl _ _))), (grown_set (grown_refl w (some b))).drew.drew⟩
/-- Bytes that stand ahead are read, none, too. -/
theorem read_any (w : World) (b g c : Nat) (l : List Int) (idx B : Nat) (big : Bool) (chunk : Int) (d : List Int) (h : Ses.RS w b g c l idx big chunk) (hp : Ses.Pre l idx d) (hB : g < B) :
    Calls Tryd.prog 82 #[.pointer (some ⟨b, 0, none⟩), .int .i64 d.length] w (Ses.RdP b g c l (idx + d.length) big chunk d B w) := by
  have hl := hp.len
  by_cases h0 : 0 < d.length
  · refine (read_ok w b g c l idx d.length big chunk h hl h0).mono ?_
    rintro e w' ⟨rfl, hrs, hg⟩
    exact ⟨_, _, rfl, hrs.C hp, (fun a ha => by injection ha with ha; subst ha; exact .inl hB), hrs, hg, by have := hrs.cap; omega⟩
  · have hd : d = [] := List.eq_nil_of_length_eq_zero (by omega)
    subst hd
    refine (read_zero w b g c l idx big chunk h hp.1).mono ?_
    rintro e w' ⟨⟨o, cc, rfl⟩, hrs, hg⟩
    exact ⟨_, _, rfl, ⟨rfl, by simp, fun h => absurd h (Nat.lt_irrefl 0)⟩, (fun a ha => by injection ha with ha; subst ha; exact .inl hB), hrs, hg, Nat.zero_le _⟩
set_option maxHeartbeats 1000000 in
set_option maxRecDepth 100000 in
theorem getBytes_any (w : World) (b g c : Nat) (l : List Int) (idx B : Nat) (big : Bool) (chunk : Int) (d : List Int) (h : Ses.RS w b g c l idx big chunk) (hp : Ses.Pre l idx d) (hB : g < B) :
    Calls Tryd.prog 69 #[.pointer (some ⟨b, 0, none⟩), .int .i64 d.length] w (Ses.RdP b g c l (idx + d.length) big chunk d B w) := by
  have HR := Lib.hid (read_any w b g c l idx B big chunk d h hp hB)
  obtain ⟨n, hn⟩ : ∃ n, n = d.length := ⟨_, rfl⟩
  have HN := Lib.hid hn
  rw [← hn] at HR ⊢
  clear h hp hn
  go_enter Tryd.func69, Tryd.ntmps69
  go_wp2_with (go_at_call 82; (with_reducible refine HR.out.mono ?_); rintro e w1 ⟨A, cc, rfl, hC, hab, hrs, hg, hle⟩; have HC := Lib.hid hC; have HA := Lib.hid hab; have HRS := Lib.hid hrs; have HG := Lib.hid hg; have HLe := Lib.hid hle; clear hC hab hrs hg hle)
  go_ret2
  exact ⟨A, cc, rfl, HC.out, HA.out, HRS.out, HG.out, HLe.out⟩
namespace Ses
theorem be_snoc : ∀ (l : List UInt8) (a : Nat) (b : UInt8), Lib.beFrom a (l ++ [b]) = Lib.beFrom a l * 256 + b.toNat
  | [], a, b => rfl
  | x :: l, a, b => by
    rw [List.cons_append, Lib.beFrom, Lib.beFrom, be_snoc l]
theorem be_zeros : ∀ (z : Nat) (l : List UInt8), Lib.beFrom 0 (List.replicate z 0 ++ l) = Lib.beFrom 0 l
  | 0, l => by simp
  | z + 1, l => by
    rw [List.replicate_succ, List.cons_append, Lib.beFrom]
    exact be_zeros z l
theorem be_digs : ∀ (ds : List Int), (∀ d ∈ ds, 0 ≤ d ∧ d ≤ 255) → (Lib.beFrom 0 (ds.reverse.map fun y => UInt8.ofNat y.toNat) : Int) = Dg.digs ds
  | [], _ => rfl
  | d :: ds, h => by
    have ih := be_digs ds (fun x hx => h x (by simp [hx]))
    have hd := h d (by simp)
    rw [List.reverse_cons, List.map_append, List.map_singleton, be_snoc, Dg.digs]
    have e : ((UInt8.ofNat d.toNat).toNat : Int) = d := by
      rw [UInt8.toNat_ofNat']
      omega
    rw [Int.natCast_add, Int.natCast_mul, ih, e]
    show Dg.digs ds * 256 + d = d + 256 * Dg.digs ds
    omega
theorem beVal_dg (ds : List Int) (h : ∀ d ∈ ds, 0 ≤ d ∧ d ≤ 255) : beVal ds.reverse = Dg.digs ds := by
  unfold beVal eight
  rw [List.map_append, List.map_replicate]
  show (Lib.beFrom 0 (List.replicate _ 0 ++ _) : Int) = _
  rw [be_zeros]
  exact be_digs ds h
theorem b127 : ∀ m : Fin 9, Go.bits .and .u8 (m.val : Int) 127 = (m.val : Int) := by decide +kernel
theorem b128w : ∀ m : Fin 9, Go.bits .and .i64 (m.val : Int) 128 = 0 := by decide +kernel
end Ses
/-- A compressed number that stands ahead is read. -/
theorem getInt64_packed (w : World) (b g c : Nat) (l : List Int) (idx : Nat) (big sb : Bool) (chunk size n : Int) (h : Ses.RS w b g c l idx big chunk) (hp : Ses.Pre l idx (Dg.packed n)) (h0 : 0 ≤ n) (h1 : n < 9223372036854775808) (hby : ∀ y ∈ l, 0 ≤ y ∧ y ≤ 255) :
    Calls Tryd.prog 73 #[.pointer (some ⟨b, 0, none⟩), .int .i64 size, .bool true, .bool sb] w fun e w' => e = .returned (.tuple #[.int .i64 n, .nilIface]) ∧ Ses.RS w' b g c l (idx + (Dg.packed n).length) big chunk ∧ w.grownBy w' (some b) := by
  have hl8 : (Dg.dg n).length ≤ 8 := Dg.dg_len n
  have hdb : ∀ d ∈ Dg.dg n, 0 ≤ d ∧ d ≤ 255 := Dg.dgF_byt 8 n
  have hdg : Dg.digs (Dg.dg n) = n := Dg.dgF_digs 8 n h0 (by omega)
  have hpl : (Dg.packed n).length = (Dg.dg n).length + 1 := by rw [Dg.packed, List.length_cons, List.length_reverse]
  rw [hpl]
  unfold Dg.packed at hp
  obtain ⟨q0, q1, q2⟩ := hp.cons
  by_cases hz : (Dg.dg n).length = 0
  · have hd : Dg.dg n = [] := List.eq_nil_of_length_eq_zero hz
    have hn : n = 0 := by rw [← hdg, hd]; rfl
    rw [hz] at q1 ⊢
    rw [hn]
    exact getInt64_zero w b g c l idx big sb chunk size h q1 (by omega)
  · have hr := getInt64_plus w b g c l idx (Dg.dg n).length big sb chunk ((Dg.dg n).length : Int) size h (by omega) hl8 q1 (Ses.b128w ⟨_, by omega⟩) rfl (by have := q2.len; rw [List.length_reverse] at this; omega) hby
    have ht := q2.take
    rw [List.length_reverse] at ht
    rw [ht, Ses.beVal_dg _ hdb, hdg, show wrap64 n = n by unfold wrap64; omega, show idx + 1 + (Dg.dg n).length = idx + ((Dg.dg n).length + 1) by omega] at hr
    exact hr
theorem getInt_packed (w : World) (b g c : Nat) (l : List Int) (idx : Nat) (big sb : Bool) (chunk size n : Int) (h : Ses.RS w b g c l idx big chunk) (hp : Ses.Pre l idx (Dg.packed n)) (h0 : 0 ≤ n) (h1 : n < 9223372036854775808) (hby : ∀ y ∈ l, 0 ≤ y ∧ y ≤ 255) :
    Calls Tryd.prog 74 #[.pointer (some ⟨b, 0, none⟩), .int .i64 size, .bool true, .bool sb] w fun e w' => e = .returned (.tuple #[.int .i64 n, .nilIface]) ∧ Ses.RS w' b g c l (idx + (Dg.packed n).length) big chunk ∧ w.grownBy w' (some b) :=
  getInt_of w b size n true sb (fun w' => Ses.RS w' b g c l (idx + (Dg.packed n).length) big chunk ∧ w.grownBy w' (some b)) (getInt64_packed w b g c l idx big sb chunk size n h hp h0 h1 hby)
/-- A compressed number ahead is no long one. -/
theorem long_packed (w : World) (b g c : Nat) (l : List Int) (idx : Nat) (big : Bool) (chunk n : Int) (h : Ses.RS w b g c l idx big chunk) (hp : Ses.Pre l idx (Dg.packed n)) :
    Calls Tryd.prog 71 #[.pointer (some ⟨b, 0, none⟩)] w fun e w' => e = .returned (.bool false) ∧ Ses.RS w' b g c l idx big chunk ∧ w.grownBy w' (some b) := by
  have hl8 : (Dg.dg n).length ≤ 8 := Dg.dg_len n
  unfold Dg.packed at hp
  obtain ⟨q0, q1, q2⟩ := hp.cons
  exact long_ok w b g c l idx big chunk _ _ h (by omega) q1 (Ses.b127 ⟨_, by omega⟩) (by show ((Dg.dg n).length : Int) ≤ 8; omega)
end Go.Proofs.YtdnahdddkagfhaaDoor.X
/- GetClr of a session: a CLR of any length that stands ahead. -/
namespace Go.Proofs.YtdnahdddkagfhaaDoor.X
open Go.RowKit Go.Proofs.YtdnahdddkagfhaaDoorW.PrintWords Go.Proofs.YtdnahdddkagfhaaDoorW.PrintMore
attribute [local go_sem] setCell_drewN alloc_drewN
set_option linter.unusedVariables false
set_option linter.unusedSimpArgs false
namespace Ses
theorem RS.kp2 {w w' : World} {b g c bb gg : Nat} {l : List Int} {idx : Nat} {big : Bool} {chunk : Int} (h : RS w b g c l idx big chunk) (k : Kp2 w w' bb gg) (h1 : b ≠ bb) (h2 : b ≠ gg) (h3 : g ≠ bb) (h4 : g ≠ gg) : RS w' b g c l idx big chunk :=
  ⟨(k.block b (xb_lt h.blk) h1 h2).trans h.blk, h.ne, h.cap, fun i hi => (World.cell?_of_block (a := ⟨g, i, none⟩) (k.block g h.lt h3 h4)).trans (h.cells i hi), h.max, Nat.lt_of_lt_of_le h.lt k.size⟩
theorem grown_kp2B {a w w' : World} {b bb gg : Nat} (h : a.grownBy w (some b)) (k : Kp2 w w' bb gg) (h1 : a.heap.size ≤ bb) (h2 : a.heap.size ≤ gg) : a.grownBy w' (some b) :=
  ⟨k.os.trans h.os, k.tape.trans h.tape, k.output.trans h.output, Nat.le_trans h.size k.size, fun i hi hr => (k.block i (Nat.lt_of_lt_of_le hi h.size) (by omega) (by omega)).trans (h.block i hi hr)⟩
/-- In the midst of a CLR: what is read so far lies in a buffer. -/
structure Mid (w wr : World) (b g c : Nat) (l : List Int) (idx : Nat) (big : Bool) (chunk : Int) (tb gB : Nat) (cs : Array Value) (acc : List Int) : Prop where
  rs : RS wr b g c l idx big chunk
  buf : BufA wr tb 0 gB 80 cs acc
  low : w.heap.size ≤ tb ∧ w.heap.size ≤ gB
  grown : w.grownBy wr (some b)
theorem Mid.read {w wr w' : World} {b g c : Nat} {l : List Int} {idx idx' : Nat} {big : Bool} {chunk : Int} {tb gB : Nat} {cs : Array Value} {acc : List Int} (h : Mid w wr b g c l idx big chunk tb gB cs acc) (hb : b < w.heap.size) (hr : RS w' b g c l idx' big chunk) (k : wr.grownBy w' (some b)) : Mid w w' b g c l idx' big chunk tb gB cs acc :=
  ⟨hr, h.buf.grown k (fun e => by have := Option.some.inj e; have := h.low; omega) (fun e => by have := Option.some.inj e; have := h.low; omega), h.low, grown_trans h.grown k⟩
theorem Mid.wrote {w wr w' : World} {b g c : Nat} {l : List Int} {idx : Nat} {big : Bool} {chunk : Int} {tb gB gB' : Nat} {cs cs' : Array Value} {acc acc' : List Int} (h : Mid w wr b g c l idx big chunk tb gB cs acc) (hb : b < w.heap.size) (hg : g < w.heap.size) (k : BufS wr w' tb 0 gB gB' 80 cs cs' acc') : Mid w w' b g c l idx big chunk tb gB' cs' acc' :=
  ⟨h.rs.kp2 k.kept (by have := h.low; omega) (by have := h.low; omega) (by have := h.low; omega) (by have := h.low; omega), k.now, ⟨h.low.1, by have := k.row; have := h.low; have := h.grown.size; omega⟩, grown_kp2B h.grown k.kept h.low.1 h.low.2⟩
/-- What is still to be read of a CLR. -/
def Rest (l : List Int) (big : Bool) (cc : Nat) (d acc : List Int) (idx idxE : Nat) (rest : List Int) (k : Nat) : Prop :=
  acc ++ rest = d ∧ Pre l idx (Dg.chunksF big cc k rest ++ [0]) ∧ rest.length ≤ k ∧ idx + (Dg.chunksF big cc k rest).length + 1 = idxE
end Ses
set_option maxHeartbeats 16000000 in
set_option maxRecDepth 100000 in
theorem getClr_long (w : World) (b g c : Nat) (l : List Int) (idx B cc : Nat) (big : Bool) (chunk : Int) (d : List Int) (h : Ses.RS w b g c l idx big chunk) (hd : 252 < d.length) (hd2 : d.length ≤ 100000) (hc1 : 1 ≤ cc) (hc2 : cc ≤ 252) (hp : Ses.Pre l idx (254 :: (Dg.chunksF big cc d.length d ++ [0]))) (hby : ∀ y ∈ l, 0 ≤ y ∧ y ≤ 255) :
    Calls Tryd.prog 70 #[.pointer (some ⟨b, 0, none⟩)] w (Ses.RdP b g c l (idx + (254 :: (Dg.chunksF big cc d.length d ++ [0])).length) big chunk d B w) := by
  have hbw := xb_lt h.blk
  have hgw := h.lt
  obtain ⟨q0, q1, q2⟩ := hp.cons
  have hgb := getByte_ok w b g c l idx big chunk h q0
  rw [q1] at hgb
  have HR := Lib.hid hgb
  obtain ⟨idxE, hE⟩ : ∃ idxE, idxE = idx + (254 :: (Dg.chunksF big cc d.length d ++ [0])).length := ⟨_, rfl⟩
  rw [← hE]
  have HRest : Hid (Ses.Rest l big cc d [] (idx + 1) idxE d d.length) := Lib.hid ⟨List.nil_append d, q2, Nat.le_refl _, by rw [hE, List.length_cons, List.length_append, List.length_singleton]; omega⟩
  have HGB := Lib.hid (fun (W : World) (i : Nat) (x : Int) (r : List Int) (h : Ses.RS W b g c l i big chunk) (hp : Ses.Pre l i (x :: r)) => (hp.cons.2.1 ▸ getByte_ok W b g c l i big chunk h hp.cons.1 : Calls Tryd.prog 68 #[.pointer (some ⟨b, 0, none⟩)] W fun e w' => e = .returned (.tuple #[.int .u8 x, .nilIface]) ∧ Ses.RS w' b g c l (i + 1) big chunk ∧ W.grownBy w' (some b)))
  have HGI := Lib.hid (fun (W : World) (i n : Nat) (h : Ses.RS W b g c l i big chunk) (hp : Ses.Pre l i (Dg.packed (n : Int))) (hn : n ≤ 255) => getInt_packed W b g c l i big true chunk 4 (n : Int) h hp (by omega) (by omega) hby)
  have HGY : Hid (∀ (W : World) (i n : Nat) (p : List Int), Ses.RS W b g c l i big chunk → Ses.Pre l i p → n = p.length → Calls Tryd.prog 69 #[.pointer (some ⟨b, 0, none⟩), .int .i64 n] W (Ses.RdP b g c l (i + n) big chunk p (g + 1) W)) := Lib.hid (fun W i n p h hp hn => by
    subst hn
    exact getBytes_any W b g c l i (g + 1) big chunk p h hp (by omega))
  clear h hp hgb q1 q2 hE
  go_enter Tryd.func70, Tryd.ntmps70
  go_wp2_with (go_at_call 68; (with_reducible refine HR.out.mono ?_); rintro e w1 ⟨rfl, hrs, hg⟩; have HRS := Lib.hid hrs; have HG := Lib.hid hg; clear hrs hg)
  have hz1 := HG.out.size
  have HM0 : Hid (Ses.Mid w (w1.alloc (.cells #[.slice none 0 0, .int .i64 0, .int .i8 0] 80)) b g c l (idx + 1) big chunk w1.heap.size w1.heap.size #[.slice none 0 0, .int .i64 0, .int .i8 0] []) := Lib.hid ⟨HRS.out.bl (below_alloc (Below.refl _ _) _), ⟨xb_new _ _, rfl, ⟨0, rfl⟩, .inl ⟨rfl, rfl, rfl⟩⟩, ⟨hz1, hz1⟩, grown_alloc HG.out _⟩
  go_loopw [3, 5] (fun v3 v5 wr => v3 = .nilIface ∧ ((∃ (m : Nat) (idx' gB k : Nat) (rest acc : List Int) (cs : Array Value), 0 < m ∧ v5 = .int .i64 m ∧ Hid (Ses.Mid w wr b g c l idx' big chunk w1.heap.size gB cs acc) ∧ Hid (Ses.Rest l big cc d acc idx' idxE rest k)) ∨ (∃ (gB : Nat) (cs : Array Value), v5 = .int .i64 0 ∧ Hid (Ses.Mid w wr b g c l idxE big chunk w1.heap.size gB cs d)))) (fun _ v5 wr => l.length + 1 - Ses.idxOf wr b)
  case atStart => exact ⟨rfl, .inl ⟨254, idx + 1, _, d.length, d, [], _, by omega, rfl, HM0, HRest⟩⟩
  case round =>
    obtain ⟨rfl, hrel⟩ := hrel
    rcases hrel with ⟨m, idx', gB, k, rest, acc, cs, hm, rfl, HM, HT⟩ | ⟨gB, cs, rfl, HM⟩
    · have t0 : decide ((m : Int) > 0) = true := decide_eq_true (by omega)
      have c5 := HM.out.rs.c5
      have hlb : ∀ n : Nat, 0 < (Dg.headB big n).length := fun n => by
        unfold Dg.headB
        split
        · rw [Dg.packed, List.length_cons]; omega
        · simp
      have HHd : Hid (∀ n : Nat, n ≤ 255 → Ses.Pre l idx' (Dg.headB big n) → (big = false → Calls Tryd.prog 68 #[.pointer (some ⟨b, 0, none⟩)] wr fun e w' => e = .returned (.tuple #[.int .u8 n, .nilIface]) ∧ Ses.RS w' b g c l (idx' + (Dg.headB big n).length) big chunk ∧ wr.grownBy w' (some b)) ∧ (big = true → Calls Tryd.prog 74 #[.pointer (some ⟨b, 0, none⟩), .int .i64 4, .bool true, .bool true] wr fun e w' => e = .returned (.tuple #[.int .i64 n, .nilIface]) ∧ Ses.RS w' b g c l (idx' + (Dg.headB big n).length) big chunk ∧ wr.grownBy w' (some b))) := Lib.hid (fun n hn hp => ⟨fun hb => by
        subst hb
        exact HGB.out wr idx' (n : Int) [] HM.out.rs hp, fun hb => by
        subst hb
        exact HGI.out wr idx' n HM.out.rs hp hn⟩)
      obtain ⟨hacc, hpre, hrk, hidx⟩ := HT.out
      clear HT
      have HWr : Hid (∀ (W W' : World) (i n : Nat) (p : List Int) (A : Option Addr) (cp : Nat), Ses.Mid w W b g c l i big chunk w1.heap.size gB cs acc → n = p.length → Kd.C (Kd.int .u8) W A p.length p → (∀ a, A = some a → a.block < g + 1 ∨ W'.heap.size ≤ a.block) → w1.heap.size < W'.heap.size → acc.length + p.length ≤ 1000000 → Calls Tryd.prog 58 #[.pointer (some ⟨w1.heap.size, 0, none⟩), .slice A n cp] W (BufP (.tuple #[.int .i64 n, .nilIface]) w1.heap.size 0 gB 80 cs (acc ++ p) W)) := Lib.hid (fun W W' i n p A cp hM hn hC hab hW' hl => by
        subst hn
        exact write_any w1.heap.size 0 gB _ cs acc p A cp W hM.buf hC (fun a ha => by
          have := hab a ha
          have := HG.out.size
          omega) (by omega))
      have htb := HM.out.buf.lt
      rcases rest with _ | ⟨r0, rest⟩
      · have hacd : acc = d := by rw [← hacc, List.append_nil]
        subst hacd
        rw [Dg.chunksF_nil] at hpre hidx
        rw [List.nil_append] at hpre
        simp only [List.length_nil, Nat.add_zero] at hidx
        have h0 : Dg.headB big 0 = [0] := by
          unfold Dg.headB
          split
          · rfl
          · rfl
        have hh := HHd.out 0 (by omega) (by rw [h0]; exact hpre)
        rw [h0] at hh
        simp only [List.length_singleton] at hh
        rw [hidx, Int.ofNat_zero] at hh
        have HH1 := Lib.hid hh
        have HG0 : Hid (∀ W : World, Ses.RS W b g c l idxE big chunk → Calls Tryd.prog 69 #[.pointer (some ⟨b, 0, none⟩), .int .i64 0] W fun e w' => ∃ A cc, e = .returned (.tuple #[.slice A 0 cc, .nilIface]) ∧ Kd.C (Kd.int .u8) w' A 0 [] ∧ (∀ a, A = some a → a.block < g + 1 ∨ W.heap.size ≤ a.block) ∧ Ses.RS w' b g c l idxE big chunk ∧ W.grownBy w' (some b) ∧ 0 ≤ cc) := Lib.hid (fun W h => HGY.out W idxE 0 [] h ⟨by have := hpre.len; rw [List.length_singleton] at this; omega, _, (List.nil_append _).symm⟩ rfl)
        have HL := Lib.hid hd2
        have HQ := Lib.hid (show idx' + 1 = idxE ∧ idx' + 1 ≤ l.length from ⟨hidx, by have := hpre.len; rw [List.length_singleton] at this; exact this⟩)
        clear hh hpre hidx h0 HHd hlb
        cases big
        all_goals
          go_wp2_with (first | (go_at_call 68; (with_reducible refine (HH1.out.1 rfl).mono ?_); rintro e w4 ⟨rfl, hrs, hg⟩; have HM4 := Lib.hid (HM.out.read hbw hrs hg); have HS4 := Lib.hid (Nat.lt_of_lt_of_le htb hg.size); clear hrs hg) | (go_at_call 74; (with_reducible refine (HH1.out.2 rfl).mono ?_); rintro e w4 ⟨rfl, hrs, hg⟩; have HM4 := Lib.hid (HM.out.read hbw hrs hg); have HS4 := Lib.hid (Nat.lt_of_lt_of_le htb hg.size); clear hrs hg) | (go_at_call 69; (with_reducible refine (HG0.out _ HM4.out.rs).mono ?_); rintro e w5 ⟨A5, c5, rfl, hC, hab, hrs, hg, -⟩; have HC5 := Lib.hid hC; have HA5 := Lib.hid hab; have HM5 := Lib.hid (HM4.out.read hbw hrs hg); clear hC hab hrs hg) | (go_at_call 58; (with_reducible refine (HWr.out _ w4 _ 0 [] _ _ HM5.out rfl HC5.out HA5.out HS4.out ?hz).mono ?_); (case hz => (have := HL.out; simp only [List.length_nil]; omega)); rintro e w6 ⟨rfl, g6, cs6, hst⟩; have HM6 := Lib.hid (HM5.out.wrote hbw hgw hst); clear hst))
          go_roundw
          case measure => rw [HM6.out.rs.idxOf, HM.out.rs.idxOf]; have := HQ.out; omega
          case rel =>
            refine ⟨rfl, .inr ⟨g6, cs6, rfl, ?_⟩⟩
            have hq := HM6.out
            rw [List.append_nil] at hq
            exact Lib.hid hq
      · obtain ⟨rs, hrs0⟩ : ∃ rs, rs = r0 :: rest := ⟨_, rfl⟩
        have hrl : 0 < rs.length := by rw [hrs0]; simp
        rw [← hrs0] at hacc hpre hrk hidx
        clear hrs0
        obtain ⟨k', hk'⟩ : ∃ k', k = k' + 1 := ⟨k - 1, by omega⟩
        subst hk'
        have hne : rs ≠ [] := fun e => by rw [e] at hrl; simp at hrl
        obtain ⟨p, hp⟩ : ∃ p, p = rs.take cc := ⟨_, rfl⟩
        obtain ⟨n1, hn1⟩ : ∃ n1, n1 = p.length := ⟨_, rfl⟩
        have hn1v : n1 = min cc rs.length := by rw [hn1, hp, List.length_take]
        have ech : Dg.chunksF big cc (k' + 1) rs = Dg.headB big n1 ++ p ++ Dg.chunksF big cc k' (rs.drop cc) := by rw [Dg.chunksF, if_neg hne, ← hp, ← hn1]
        rw [ech] at hpre hidx
        rw [List.append_assoc, List.append_assoc] at hpre
        obtain ⟨hp1, hpre⟩ := hpre.app
        obtain ⟨hp2, hp3⟩ := hpre.app
        rw [List.length_append, List.length_append] at hidx
        rw [← hn1] at hp3 hidx
        have hh := HHd.out n1 (by omega) hp1
        obtain ⟨i1, hi1⟩ : ∃ i1, i1 = idx' + (Dg.headB big n1).length := ⟨_, rfl⟩
        rw [← hi1] at hh hp2 hp3
        have hi1b : idx' < i1 := by have := hlb n1; omega
        have HH1 := Lib.hid hh
        have HG1 := Lib.hid (fun (W : World) (h : Ses.RS W b g c l i1 big chunk) => HGY.out W i1 n1 p h hp2 hn1)
        have HN1 := Lib.hid hn1
        have hT : Ses.Rest l big cc d (acc ++ p) (i1 + n1) idxE (rs.drop cc) k' := ⟨by rw [List.append_assoc, hp, List.take_append_drop]; exact hacc, hp3, by rw [List.length_drop]; omega, by omega⟩
        have HT2 := Lib.hid hT
        have hal : acc.length + p.length ≤ 1000000 := by
          have h := congrArg List.length hacc
          rw [List.length_append] at h
          have : p.length ≤ rs.length := by rw [hp, List.length_take]; omega
          omega
        have HAl := Lib.hid hal
        have HQ := Lib.hid (show idx' < i1 ∧ i1 ≤ l.length from ⟨hi1b, hp2.1⟩)
        have pw : IntKind.i64.wrap (n1 : Int) = (n1 : Int) := (IntKind.wrap_i64 _).trans (by omega)
        have hn1p : 0 < n1 := by omega
        have hn1q : (n1 : Int) ≤ 252 := by omega
        clear hh hp1 hp2 hp3 hpre hidx hacc hrk hne hn1 hn1v ech hi1 hi1b hT hal HHd hlb hp
        cases big
        all_goals
          go_wp2_with (first | (go_at_call 68; (with_reducible refine (HH1.out.1 rfl).mono ?_); rintro e w4 ⟨rfl, hrs, hg⟩; have HM4 := Lib.hid (HM.out.read hbw hrs hg); have HS4 := Lib.hid (Nat.lt_of_lt_of_le htb hg.size); clear hrs hg) | (go_at_call 74; (with_reducible refine (HH1.out.2 rfl).mono ?_); rintro e w4 ⟨rfl, hrs, hg⟩; have HM4 := Lib.hid (HM.out.read hbw hrs hg); have HS4 := Lib.hid (Nat.lt_of_lt_of_le htb hg.size); clear hrs hg) | (go_at_call 69; (with_reducible refine (HG1.out _ HM4.out.rs).mono ?_); rintro e w5 ⟨A5, c5, rfl, hC, hab, hrs, hg, -⟩; (rw [← HN1.out]); have HC5 := Lib.hid hC; have HA5 := Lib.hid hab; have HM5 := Lib.hid (HM4.out.read hbw hrs hg); clear hC hab hrs hg) | (go_at_call 58; (with_reducible refine (HWr.out _ w4 _ n1 p _ _ HM5.out HN1.out HC5.out HA5.out HS4.out HAl.out).mono ?_); rintro e w6 ⟨rfl, g6, cs6, hst⟩; have HM6 := Lib.hid (HM5.out.wrote hbw hgw hst); clear hst))
          go_roundw
          case measure => rw [HM6.out.rs.idxOf, HM.out.rs.idxOf]; have := HQ.out; omega
          case rel => exact ⟨rfl, .inl ⟨n1, i1 + n1, g6, k', rs.drop cc, acc ++ p, cs6, hn1p, rfl, HM6, HT2⟩⟩
    · have HBy := Lib.hid (bytes_any w1.heap.size 0 gB _ cs d wr HM.out.buf)
      obtain ⟨n, hn⟩ : ∃ n, n = d.length := ⟨_, rfl⟩
      have HN := Lib.hid hn
      rw [← hn] at HBy
      clear hn
      go_wp2_with (go_at_call 46; (with_reducible refine HBy.out.mono ?_); rintro e w8 ⟨A8, c8, rfl, hA8, hC8, hle8, n8, rfl⟩; have HA8 := Lib.hid hA8; have HC8 := Lib.hid hC8; have HL8 := Lib.hid hle8; clear hA8 hC8 hle8)
      go_ret2
      have hC := HC8.out
      have hl8 := HL8.out
      rw [HN.out] at hC hl8 ⊢
      refine ⟨A8, c8, rfl, Kd.C_below hC (bl_drewN _ _), fun a ha => ?_, HM.out.rs.bl (bl_drewN _ _), grown_bl HM.out.grown (bl_drewN _ _), hl8⟩
      rcases HA8.out with rfl | ⟨rfl, _⟩
      · cases ha
      · injection ha with ha
        subst ha
        exact .inr HM.out.low.2
/-- A CLR that stands ahead is read. -/
theorem getClr_any (w : World) (b g c : Nat) (l : List Int) (idx B cc : Nat) (big : Bool) (chunk : Int) (d : List Int) (h : Ses.RS w b g c l idx big chunk) (hB : B ≤ w.heap.size) (hd2 : d.length ≤ 100000) (hc1 : 1 ≤ cc) (hc2 : cc ≤ 252) (hp : Ses.Pre l idx (Dg.clrB big cc d)) (hby : ∀ y ∈ l, 0 ≤ y ∧ y ≤ 255) :
    Calls Tryd.prog 70 #[.pointer (some ⟨b, 0, none⟩)] w (Ses.RdP b g c l (idx + (Dg.clrB big cc d).length) big chunk d B w) := by
  unfold Dg.clrB at hp ⊢
  split at hp
  · rename_i hs
    rw [if_pos hs]
    obtain ⟨q0, q1, q2⟩ := hp.cons
    by_cases h0 : 0 < d.length
    · refine (getClr_short w b g c l idx d.length big chunk h h0 hs q1 (by have := q2.len; omega) (xb_lt h.blk)).mono ?_
      rintro e w' ⟨gd, cd, rfl, hgd, hgl, hcd, hcl, hrs, hg⟩
      rw [q2.take] at hcl
      refine ⟨some ⟨gd, 0, none⟩, cd, rfl, ?_, fun a ha => by injection ha with ha; subst ha; exact .inr hgd, by rw [List.length_cons, show idx + (d.length + 1) = idx + 1 + d.length by omega]; exact hrs, hg, hcd⟩
      exact C_of (by omega) (fun i hi => by rw [Nat.zero_add]; exact hcl i hi)
    · have hd : d = [] := List.eq_nil_of_length_eq_zero (by omega)
      subst hd
      refine (getClr_none w b g c l idx big chunk h q0 (.inl q1)).mono ?_
      rintro e w' ⟨rfl, hrs, hg⟩
      exact ⟨none, 0, rfl, C_empty _ _ _, (fun a ha => by cases ha), hrs, hg, Nat.le_refl _⟩
  · rename_i hs
    rw [if_neg hs]
    exact getClr_long w b g c l idx B cc big chunk d h (by omega) hd2 hc1 hc2 hp hby
end Go.Proofs.YtdnahdddkagfhaaDoor.X
/- impl.got of a key and a value, over any contract of the reader. -/
namespace Go.Proofs.YtdnahdddkagfhaaDoor.X
open Go.RowKit Go.Proofs.YtdnahdddkagfhaaDoorW.PrintWords Go.Proofs.YtdnahdddkagfhaaDoorW.PrintMore
attribute [local go_sem] setCell_drewN alloc_drewN
set_option linter.unusedVariables false
set_option linter.unusedSimpArgs false
/-- What GetKeyVal leaves. -/
def Ses.KvP (b g c : Nat) (l : List Int) (idx' : Nat) (big : Bool) (chunk : Int) (d1 d2 : List Int) (num : Int) (B : Nat) (w : World) (e : Ending) (w' : World) : Prop :=
  ∃ A c1 A' c2, e = .returned (.tuple #[.slice A d1.length c1, .slice A' d2.length c2, .int .i64 num, .nilIface]) ∧ Kd.C (Kd.int .u8) w' A d1.length d1 ∧ (∀ a, A = some a → a.block < B ∨ w.heap.size ≤ a.block) ∧ Kd.C (Kd.int .u8) w' A' d2.length d2 ∧ (∀ a, A' = some a → a.block < B ∨ w.heap.size ≤ a.block) ∧ Ses.RS w' b g c l idx' big chunk ∧ w.grownBy w' (some b)
set_option maxHeartbeats 8000000 in
set_option maxRecDepth 100000 in
/-- A key and a value with a flag. -/
theorem got_keyval (w : World) (b g c : Nat) (l : List Int) (idx idx' : Nat) (big : Bool) (chunk size : Int) (sb sc : Bool) (d1 d2 : List Int) (num : Int) (h : Ses.RS w b g c l idx big chunk) (hsz : 0 ≤ size) (hd : d1.length ≤ 1000000) (hl2 : d2.length ≤ 1000000)
    (hf : ∀ W, Ses.RS W b g c l idx big chunk → w.heap.size ≤ W.heap.size → Calls Tryd.prog 75 #[.pointer (some ⟨b, 0, none⟩)] W (Ses.KvP b g c l idx' big chunk d1 d2 num w.heap.size W)) :
    Calls Tryd.prog 48 #[.pointer (some ⟨b, 0, none⟩), .agg #[.int .i64 6, .int .i64 size, .bool sb, .bool sc]] w (Ses.GotP b g c l idx' big chunk d1 d2 num w) := by
  have hb := xb_lt h.blk
  have hg0 := h.lt
  have HR := Lib.hid hf
  have HH := Lib.hid (h.bl (Ses.W3_bl w 6 size sb sc))
  have hz3 := Ses.W3_size w 6 size sb sc
  obtain ⟨n1, hn1'⟩ : ∃ n1, n1 = d1.length := ⟨_, rfl⟩
  have HN1 := Lib.hid hn1'
  have HLd := Lib.hid (And.intro hd hl2)
  have tneg : decide (size < 0) = false := decide_eq_false (by omega)
  unfold Ses.W3 at HH hz3
  clear h hf hn1' hd hl2 hsz
  go_enter Tryd.func48, Tryd.ntmps48
  go_wp2_with (first | (go_at_call 75; (with_reducible refine (HR.out _ ?hrs ?hsz).mono ?_); (case hrs => exact HH.out); (case hsz => omega); rintro e w1 ⟨A1, c1, A2, c2, rfl, hC, hab, hC2, hab2, hrs, hg⟩; (rw [← HN1.out]); have HRS := Lib.hid hrs; have HG := Lib.hid (Ses.W3_grown (kind := 6) (size := size) (big := sb) (comp := sc) hb hg); have HCl := Lib.hid hC; have HCm := Lib.hid hC2; have HAb := Lib.hid hab; have HAc := Lib.hid hab2; have hk3 := Ses.G3_of (kind := 6) (size := size) (big := sb) (comp := sc) hb hg; have x0 := xb_cell hk3.k0 0; have x1 := xb_cell hk3.k0 1; have x2 := xb_cell hk3.k0 2; have x3 := xb_cell hk3.k0 3; have y0 := xb_cell hk3.k2 0; have z0 := xb_cell hk3.k1 0; have fy0 := blk_free hk3.k2 0; have fz0 := blk_free hk3.k1 0; have y1 := xb_cell hk3.k2 1; have z1 := xb_cell hk3.k1 1; have fy1 := blk_free hk3.k2 1; have fz1 := blk_free hk3.k1 1; have y2 := xb_cell hk3.k2 2; have z2 := xb_cell hk3.k1 2; have fy2 := blk_free hk3.k2 2; have fz2 := blk_free hk3.k1 2; have y3 := xb_cell hk3.k2 3; have z3 := xb_cell hk3.k1 3; have fy3 := blk_free hk3.k2 3; have fz3 := blk_free hk3.k1 3; have y4 := xb_cell hk3.k2 4; have z4 := xb_cell hk3.k1 4; have fy4 := blk_free hk3.k2 4; have fz4 := blk_free hk3.k1 4; simp only [List.getElem?_toArray, List.getElem?_cons_zero, List.getElem?_cons_succ] at y0 z0 y1 z1 y2 z2 y3 z3 y4 z4; have K0 := Lib.hid hk3; simp only [List.getElem?_toArray, List.getElem?_cons_zero, List.getElem?_cons_succ] at x0 x1 x2 x3; clear hrs hg hk3 hC hab hC2 hab2))
  have hab1 : ∀ a, A1 = some a → a.block ≠ w.heap.size + 1 + 1 := fun a ha => by
    have := HAb.out a ha
    rw [hz3] at this
    omega
  have hab2 : ∀ a, A2 = some a → a.block ≠ w.heap.size + 1 + 1 := fun a ha => by
    have := HAc.out a ha
    rw [hz3] at this
    omega
  have hX1 : Hid (((((w1.setCell ⟨w.heap.size + 1 + 1, 1, none⟩ (.slice A1 n1 c1)).setCell ⟨w.heap.size + 1 + 1, 2, none⟩ (.slice A2 d2.length c2)).setCell ⟨w.heap.size + 1 + 1, 3, none⟩ (.int .i64 num)).setCell ⟨w.heap.size + 1 + 1, 0, none⟩ (.bool true)).heap[w.heap.size + 1]? = some (.cells #[.bool false, .slice none 0 0, .slice none 0 0, .int .i64 0, .string ⟨#[]⟩] 38 (0, 0))) := Lib.hid ((blk_set_other (by omega)).trans ((blk_set_other (by omega)).trans ((blk_set_other (by omega)).trans ((blk_set_other (by omega)).trans K0.out.k1))))
  have hX2 : Hid (((((w1.setCell ⟨w.heap.size + 1 + 1, 1, none⟩ (.slice A1 n1 c1)).setCell ⟨w.heap.size + 1 + 1, 2, none⟩ (.slice A2 d2.length c2)).setCell ⟨w.heap.size + 1 + 1, 3, none⟩ (.int .i64 num)).setCell ⟨w.heap.size + 1 + 1, 0, none⟩ (.bool true)).heap[w.heap.size + 1 + 1]? = some (.cells #[.bool true, .slice A1 n1 c1, .slice A2 d2.length c2, .int .i64 num, .string ⟨#[]⟩] 38 (0, 0))) := Lib.hid ((xb_set (xb_set (xb_set (xb_set K0.out.k2 1 _) 2 _) 3 _) 0 _).trans (by simp))
  have hXr : Hid (Ses.RS ((((w1.setCell ⟨w.heap.size + 1 + 1, 1, none⟩ (.slice A1 n1 c1)).setCell ⟨w.heap.size + 1 + 1, 2, none⟩ (.slice A2 d2.length c2)).setCell ⟨w.heap.size + 1 + 1, 3, none⟩ (.int .i64 num)).setCell ⟨w.heap.size + 1 + 1, 0, none⟩ (.bool true)) b g c l idx' big chunk) := Lib.hid ((((HRS.out.far _ (by omega) (by omega)).far _ (by omega) (by omega)).far _ (by omega) (by omega)).far _ (by omega) (by omega))
  have hXg : Hid (w.grownBy ((((w1.setCell ⟨w.heap.size + 1 + 1, 1, none⟩ (.slice A1 n1 c1)).setCell ⟨w.heap.size + 1 + 1, 2, none⟩ (.slice A2 d2.length c2)).setCell ⟨w.heap.size + 1 + 1, 3, none⟩ (.int .i64 num)).setCell ⟨w.heap.size + 1 + 1, 0, none⟩ (.bool true)) (some b)) := Lib.hid (grown_far (grown_far (grown_far (grown_far HG.out _ (by omega)) _ (by omega)) _ (by omega)) _ (by omega))
  have hXc : Hid (Kd.C (Kd.int .u8) ((((w1.setCell ⟨w.heap.size + 1 + 1, 1, none⟩ (.slice A1 n1 c1)).setCell ⟨w.heap.size + 1 + 1, 2, none⟩ (.slice A2 d2.length c2)).setCell ⟨w.heap.size + 1 + 1, 3, none⟩ (.int .i64 num)).setCell ⟨w.heap.size + 1 + 1, 0, none⟩ (.bool true)) A1 d1.length d1) := Lib.hid (C_far (C_far (C_far (C_far HCl.out hab1) hab1) hab1) hab1)
  have hXd : Hid (Kd.C (Kd.int .u8) ((((w1.setCell ⟨w.heap.size + 1 + 1, 1, none⟩ (.slice A1 n1 c1)).setCell ⟨w.heap.size + 1 + 1, 2, none⟩ (.slice A2 d2.length c2)).setCell ⟨w.heap.size + 1 + 1, 3, none⟩ (.int .i64 num)).setCell ⟨w.heap.size + 1 + 1, 0, none⟩ (.bool true)) A2 d2.length d2) := Lib.hid (C_far (C_far (C_far (C_far HCm.out hab2) hab2) hab2) hab2)
  clear y0 z0 fy0 fz0 y1 z1 fy1 fz1 y2 z2 fy2 fz2 y3 z3 fy3 fz3 y4 z4 fy4 fz4 x0 x1 x2 x3 hab1 hab2
  generalize ((((w1.setCell ⟨w.heap.size + 1 + 1, 1, none⟩ (.slice A1 n1 c1)).setCell ⟨w.heap.size + 1 + 1, 2, none⟩ (.slice A2 d2.length c2)).setCell ⟨w.heap.size + 1 + 1, 3, none⟩ (.int .i64 num)).setCell ⟨w.heap.size + 1 + 1, 0, none⟩ (.bool true)) = w2 at *
  have hn1 := xb_lt hX1.out
  have hn2 := xb_lt hX2.out
  have K1 := hX1
  have K2 := hX2
  have y0 := xb_cell K2.out 0; have z0 := xb_cell K1.out 0; have fy0 := blk_free K2.out 0; have fz0 := blk_free K1.out 0; have y1 := xb_cell K2.out 1; have z1 := xb_cell K1.out 1; have fy1 := blk_free K2.out 1; have fz1 := blk_free K1.out 1; have y2 := xb_cell K2.out 2; have z2 := xb_cell K1.out 2; have fy2 := blk_free K2.out 2; have fz2 := blk_free K1.out 2; have y3 := xb_cell K2.out 3; have z3 := xb_cell K1.out 3; have fy3 := blk_free K2.out 3; have fz3 := blk_free K1.out 3; have y4 := xb_cell K2.out 4; have z4 := xb_cell K1.out 4; have fy4 := blk_free K2.out 4; have fz4 := blk_free K1.out 4; simp only [List.getElem?_toArray, List.getElem?_cons_zero, List.getElem?_cons_succ] at y0 z0 y1 z1 y2 z2 y3 z3 y4 z4
  have HC1 : Hid (∀ W : World, Below w2.heap.size w2 W → Calls Tryd.prog 17 #[.slice A1 n1 c1] W fun e w' => ∃ v, e = .returned v ∧ Kd.R (Kd.int .u8) 5 w' W.heap.size (fun _ => True) v d1 ∧ Below W.heap.size W w') := Lib.hid (fun W hW => by
    have h := clone_any A1 c1 d1 W (Kd.C_below hXc.out hW) (by have := HLd.out.1; omega)
    rw [← HN1.out] at h
    exact h)
  have HC2 : Hid (∀ W : World, Below w2.heap.size w2 W → Calls Tryd.prog 17 #[.slice A2 d2.length c2] W fun e w' => ∃ v, e = .returned v ∧ Kd.R (Kd.int .u8) 5 w' W.heap.size (fun _ => True) v d2 ∧ Below W.heap.size W w') := Lib.hid (fun W hW => clone_any A2 c2 d2 W (Kd.C_below hXd.out hW) (by have := HLd.out.2; omega))
  refine wp_region_noPanic ?_
  refine wp_region_held_drew (S := fun _ => True) (by kernel_rfl) trivial (fun hHeld => ?_)
  refine wpAnyH_take (i := 0) (v := ?_) rfl (by kernel_rfl) (by kernel_rfl) (by kernel_rfl) (fun _ _ _ h => h) (Or.inl ⟨by rfl, ?_⟩) (by assumption) ?_
  rotate_left
  · intro w hSw
    go_simp
    try (with_reducible rfl)
  try simp only [Act.put, List.setIfInBounds_toArray, List.set_cons_zero, List.set_cons_succ]
  refine wpAnyH_take (i := 3) (v := ?_) rfl (by kernel_rfl) (by kernel_rfl) (by kernel_rfl) (fun _ _ _ h => h) (Or.inl ⟨by rfl, ?_⟩) (by assumption) ?_
  rotate_left
  · intro w hSw
    go_simp
    try (with_reducible rfl)
  try simp only [Act.put, List.setIfInBounds_toArray, List.set_cons_zero, List.set_cons_succ]
  refine wpAnyH_ready (rs := [1, 4]) (by kernel_rfl) (by simp) ?_
  refine AllReadyH.cons (o := _) rfl (fun K hK => ?_) ?_
  · go_simp
    refine hK.out _ _ trivial (fun hHeld => ?_)
    clear hK K
    try simp only [Act.put, List.setIfInBounds_toArray, List.set_cons_zero, List.set_cons_succ]
    refine wpAnyH_ready (rs := [2, 4]) (by kernel_rfl) (by simp) ?_
    refine AllReadyH.cons (o := _) rfl (fun K hK => ?_) ?_
    · go_simp
      go_at_call 17
      refine (HC1.out _ ?hb).mono ?_
      case hb => exact below_drew (Below.refl _ _)
      rintro e w5 ⟨v5, rfl, hR5, hb⟩
      obtain ⟨A5, c5, rfl, -, -, hab5, -⟩ := Ses.R_slots hR5
      have HR5 := Lib.hid hR5; have HA5 := Lib.hid hab5; have HB5 := Lib.hid ((below_drew (Below.refl w2.heap.size w2)).trans hb)
      have h1 := (HB5.out.block _ hn1).trans K1.out; have h2 := (HB5.out.block _ hn2).trans K2.out
      clear y0 z0 fy0 fz0 y1 z1 fy1 fz1 y2 z2 fy2 fz2 y3 z3 fy3 fz3 y4 z4 fy4 fz4
      have y0 := xb_cell h2 0; have z0 := xb_cell h1 0; have fy0 := blk_free h2 0; have fz0 := blk_free h1 0; have y1 := xb_cell h2 1; have z1 := xb_cell h1 1; have fy1 := blk_free h2 1; have fz1 := blk_free h1 1; have y2 := xb_cell h2 2; have z2 := xb_cell h1 2; have fy2 := blk_free h2 2; have fz2 := blk_free h1 2; have y3 := xb_cell h2 3; have z3 := xb_cell h1 3; have fy3 := blk_free h2 3; have fz3 := blk_free h1 3; have y4 := xb_cell h2 4; have z4 := xb_cell h1 4; have fy4 := blk_free h2 4; have fz4 := blk_free h1 4; simp only [List.getElem?_toArray, List.getElem?_cons_zero, List.getElem?_cons_succ] at y0 z0 y1 z1 y2 z2 y3 z3 y4 z4
      have H1 := Lib.hid h1; have H2 := Lib.hid h2
      clear hR5 hab5 hb h1 h2
      rw [← HN1.out]
      go_wp2
      refine hK.out _ _ trivial (fun hHeld => ?_)
      clear hK K
      try simp only [Act.put, List.setIfInBounds_toArray, List.set_cons_zero, List.set_cons_succ]
      refine wpAnyH_ready (rs := [4]) (by kernel_rfl) (by simp) ?_
      refine AllReadyH.cons (o := _) rfl (fun K hK => ?_) ?_
      · go_simp
        refine hK.out _ _ trivial (fun hHeld => ?_)
        clear hK K
        try simp only [Act.put, List.setIfInBounds_toArray, List.set_cons_zero, List.set_cons_succ]
        refine wpAnyH_take (i := 6) (v := ?_) rfl (by kernel_rfl) (by kernel_rfl) (by kernel_rfl) (fun _ _ _ h => h) (Or.inl ⟨by rfl, ?_⟩) (by assumption) ?_
        rotate_left
        · intro w hSw
          go_simp
          try (with_reducible rfl)
        try simp only [Act.put, List.setIfInBounds_toArray, List.set_cons_zero, List.set_cons_succ]
        refine wpAnyH_ready (rs := [5]) (by kernel_rfl) (by simp) ?_
        refine AllReadyH.cons (o := _) rfl (fun K hK => ?_) ?_
        · go_simp
          go_at_call 17
          refine (HC2.out _ ?hb).mono ?_
          case hb => exact HB5.out
          rintro e w6 ⟨v6, rfl, hR6, hb⟩
          obtain ⟨A6, c6, rfl, -, -, hab6, -⟩ := Ses.R_slots hR6
          have HR6 := Lib.hid hR6; have HA6 := Lib.hid hab6; have HB6 := Lib.hid hb
          have h1 := (hb.block _ (xb_lt H1.out)).trans H1.out; have h2 := (hb.block _ (xb_lt H2.out)).trans H2.out
          clear y0 z0 fy0 fz0 y1 z1 fy1 fz1 y2 z2 fy2 fz2 y3 z3 fy3 fz3 y4 z4 fy4 fz4
          have y0 := xb_cell h2 0; have z0 := xb_cell h1 0; have fy0 := blk_free h2 0; have fz0 := blk_free h1 0; have y1 := xb_cell h2 1; have z1 := xb_cell h1 1; have fy1 := blk_free h2 1; have fz1 := blk_free h1 1; have y2 := xb_cell h2 2; have z2 := xb_cell h1 2; have fy2 := blk_free h2 2; have fz2 := blk_free h1 2; have y3 := xb_cell h2 3; have z3 := xb_cell h1 3; have fy3 := blk_free h2 3; have fz3 := blk_free h1 3; have y4 := xb_cell h2 4; have z4 := xb_cell h1 4; have fy4 := blk_free h2 4; have fz4 := blk_free h1 4; simp only [List.getElem?_toArray, List.getElem?_cons_zero, List.getElem?_cons_succ] at y0 z0 y1 z1 y2 z2 y3 z3 y4 z4
          have L1 := Lib.hid h1; have L2 := Lib.hid h2
          clear hR6 hab6 hb h1 h2
          go_wp2
          refine hK.out _ _ trivial (fun hHeld => ?_)
          clear hK K
          try simp only [Act.put, List.setIfInBounds_toArray, List.set_cons_zero, List.set_cons_succ]
          refine wpAnyH_ready (rs := [7]) (by kernel_rfl) (by simp) ?_
          refine AllReadyH.cons (o := _) rfl (fun K hK => ?_) ?_
          · go_simp
            refine hK.out _ _ trivial (fun hHeld => ?_)
            clear hK K
            try simp only [Act.put, List.setIfInBounds_toArray, List.set_cons_zero, List.set_cons_succ]
            refine wpAnyH_take (i := 8) (v := ?_) rfl (by kernel_rfl) (by kernel_rfl) (by kernel_rfl) (fun _ _ _ h => h) (Or.inl ⟨by rfl, ?_⟩) (by assumption) ?_
            rotate_left
            · intro w hSw
              go_simp
              try (with_reducible rfl)
            try simp only [Act.put, List.setIfInBounds_toArray, List.set_cons_zero, List.set_cons_succ]
            refine wpAnyH_ready (rs := [9]) (by kernel_rfl) (by simp) ?_
            refine AllReadyH.cons (o := _) rfl (fun K hK => ?_) ?_
            · go_simp
              refine hK.out _ _ trivial (fun hHeld => ?_)
              clear hK K
              try simp only [Act.put, List.setIfInBounds_toArray, List.set_cons_zero, List.set_cons_succ]
              refine wpAnyH_done (by kernel_rfl) ?_ _
              refine NoPanic.normal ?_
              go_wp2
              refine bodyPost_ret (results_cell_row rfl _ _ (w.heap.size + 1) 38 #[.bool true, .slice A5 n1 c5, .slice A6 d2.length c6, .int .i64 num, .string ⟨#[]⟩] (0, 0) _ rfl ?_ Tryd.underlying38 rfl (by kernel_rfl)) rfl ?_
              · exact Ses.got_block2 (by omega) L1.out _ _ _ _ _ _ _
              · have hz5 := HB5.out.size
                have hz6 := HB6.out.size
                have q5 : ∀ k, (Value.slice A5 d1.length c5).ownBlock = some k → k ≠ w.heap.size + 1 ∧ k ≠ w.heap.size + 1 + 1 := fun k hk => by
                  have hlt : w2.heap.size ≤ k := Kd.R_base HR5.out k hk
                  omega
                have q6 : ∀ k, (Value.slice A6 d2.length c6).ownBlock = some k → k ≠ w.heap.size + 1 ∧ k ≠ w.heap.size + 1 + 1 := fun k hk => by
                  have hlt : w5.heap.size ≤ k := Kd.R_base HR6.out k hk
                  omega
                have D5 : Ses.DataB w.heap.size d1 w6 (.slice A5 d1.length c5) := Kd.R_below (Kd.R_lower HR5.out (show w.heap.size ≤ w2.heap.size by omega)) HB6.out
                have D6 : Ses.DataB w.heap.size d2 w6 (.slice A6 d2.length c6) := Kd.R_lower HR6.out (by omega)
                rw [HN1.out]
                refine ⟨A5, _, c5, A6, _, c6, rfl, ?_, ?_, ?_, ?_⟩
                · iterate 5 refine Ses.DataB_far ?_ (fun k hk => (q5 k hk).1) _
                  iterate 2 refine Ses.DataB_far ?_ (fun k hk => (q5 k hk).2) _
                  exact D5
                · iterate 5 refine Ses.DataB_far ?_ (fun k hk => (q6 k hk).1) _
                  iterate 2 refine Ses.DataB_far ?_ (fun k hk => (q6 k hk).2) _
                  exact D6
                · iterate 7 refine Ses.RS.far ?_ _ (by omega) (by omega)
                  exact (hXr.out.bl HB5.out).bl HB6.out
                · iterate 7 refine grown_far ?_ _ (by omega)
                  exact grown_bl (grown_bl hXg.out HB5.out) HB6.out
            exact AllReadyH.nil
          exact AllReadyH.nil
        exact AllReadyH.nil
      exact AllReadyH.nil
    refine AllReadyH.cons (o := _) rfl (fun K hK => ?_) ?_
    · go_simp
      refine hK.out _ _ trivial (fun hHeld => ?_)
      clear hK K
      try simp only [Act.put, List.setIfInBounds_toArray, List.set_cons_zero, List.set_cons_succ]
      refine wpAnyH_ready (rs := [2]) (by kernel_rfl) (by simp) ?_
      refine AllReadyH.cons (o := _) rfl (fun K hK => ?_) ?_
      · go_simp
        go_at_call 17
        refine (HC1.out _ ?hb).mono ?_
        case hb => exact below_drew (Below.refl _ _)
        rintro e w5 ⟨v5, rfl, hR5, hb⟩
        obtain ⟨A5, c5, rfl, -, -, hab5, -⟩ := Ses.R_slots hR5
        have HR5 := Lib.hid hR5; have HA5 := Lib.hid hab5; have HB5 := Lib.hid ((below_drew (Below.refl w2.heap.size w2)).trans hb)
        have h1 := (HB5.out.block _ hn1).trans K1.out; have h2 := (HB5.out.block _ hn2).trans K2.out
        clear y0 z0 fy0 fz0 y1 z1 fy1 fz1 y2 z2 fy2 fz2 y3 z3 fy3 fz3 y4 z4 fy4 fz4
        have y0 := xb_cell h2 0; have z0 := xb_cell h1 0; have fy0 := blk_free h2 0; have fz0 := blk_free h1 0; have y1 := xb_cell h2 1; have z1 := xb_cell h1 1; have fy1 := blk_free h2 1; have fz1 := blk_free h1 1; have y2 := xb_cell h2 2; have z2 := xb_cell h1 2; have fy2 := blk_free h2 2; have fz2 := blk_free h1 2; have y3 := xb_cell h2 3; have z3 := xb_cell h1 3; have fy3 := blk_free h2 3; have fz3 := blk_free h1 3; have y4 := xb_cell h2 4; have z4 := xb_cell h1 4; have fy4 := blk_free h2 4; have fz4 := blk_free h1 4; simp only [List.getElem?_toArray, List.getElem?_cons_zero, List.getElem?_cons_succ] at y0 z0 y1 z1 y2 z2 y3 z3 y4 z4
        have H1 := Lib.hid h1; have H2 := Lib.hid h2
        clear hR5 hab5 hb h1 h2
        rw [← HN1.out]
        go_wp2
        refine hK.out _ _ trivial (fun hHeld => ?_)
        clear hK K
        try simp only [Act.put, List.setIfInBounds_toArray, List.set_cons_zero, List.set_cons_succ]
        refine wpAnyH_take (i := 6) (v := ?_) rfl (by kernel_rfl) (by kernel_rfl) (by kernel_rfl) (fun _ _ _ h => h) (Or.inl ⟨by rfl, ?_⟩) (by assumption) ?_
        rotate_left
        · intro w hSw
          go_simp
          try (with_reducible rfl)
        try simp only [Act.put, List.setIfInBounds_toArray, List.set_cons_zero, List.set_cons_succ]
        refine wpAnyH_ready (rs := [5]) (by kernel_rfl) (by simp) ?_
        refine AllReadyH.cons (o := _) rfl (fun K hK => ?_) ?_
        · go_simp
          go_at_call 17
          refine (HC2.out _ ?hb).mono ?_
          case hb => exact HB5.out
          rintro e w6 ⟨v6, rfl, hR6, hb⟩
          obtain ⟨A6, c6, rfl, -, -, hab6, -⟩ := Ses.R_slots hR6
          have HR6 := Lib.hid hR6; have HA6 := Lib.hid hab6; have HB6 := Lib.hid hb
          have h1 := (hb.block _ (xb_lt H1.out)).trans H1.out; have h2 := (hb.block _ (xb_lt H2.out)).trans H2.out
          clear y0 z0 fy0 fz0 y1 z1 fy1 fz1 y2 z2 fy2 fz2 y3 z3 fy3 fz3 y4 z4 fy4 fz4
          have y0 := xb_cell h2 0; have z0 := xb_cell h1 0; have fy0 := blk_free h2 0; have fz0 := blk_free h1 0; have y1 := xb_cell h2 1; have z1 := xb_cell h1 1; have fy1 := blk_free h2 1; have fz1 := blk_free h1 1; have y2 := xb_cell h2 2; have z2 := xb_cell h1 2; have fy2 := blk_free h2 2; have fz2 := blk_free h1 2; have y3 := xb_cell h2 3; have z3 := xb_cell h1 3; have fy3 := blk_free h2 3; have fz3 := blk_free h1 3; have y4 := xb_cell h2 4; have z4 := xb_cell h1 4; have fy4 := blk_free h2 4; have fz4 := blk_free h1 4; simp only [List.getElem?_toArray, List.getElem?_cons_zero, List.getElem?_cons_succ] at y0 z0 y1 z1 y2 z2 y3 z3 y4 z4
          have L1 := Lib.hid h1; have L2 := Lib.hid h2
          clear hR6 hab6 hb h1 h2
          go_wp2
          refine hK.out _ _ trivial (fun hHeld => ?_)
          clear hK K
          try simp only [Act.put, List.setIfInBounds_toArray, List.set_cons_zero, List.set_cons_succ]
          refine wpAnyH_ready (rs := [7]) (by kernel_rfl) (by simp) ?_
          refine AllReadyH.cons (o := _) rfl (fun K hK => ?_) ?_
          · go_simp
            refine hK.out _ _ trivial (fun hHeld => ?_)
            clear hK K
            try simp only [Act.put, List.setIfInBounds_toArray, List.set_cons_zero, List.set_cons_succ]
            refine wpAnyH_take (i := 8) (v := ?_) rfl (by kernel_rfl) (by kernel_rfl) (by kernel_rfl) (fun _ _ _ h => h) (Or.inl ⟨by rfl, ?_⟩) (by assumption) ?_
            rotate_left
            · intro w hSw
              go_simp
              try (with_reducible rfl)
            try simp only [Act.put, List.setIfInBounds_toArray, List.set_cons_zero, List.set_cons_succ]
            refine wpAnyH_ready (rs := [9]) (by kernel_rfl) (by simp) ?_
            refine AllReadyH.cons (o := _) rfl (fun K hK => ?_) ?_
            · go_simp
              refine hK.out _ _ trivial (fun hHeld => ?_)
              clear hK K
              try simp only [Act.put, List.setIfInBounds_toArray, List.set_cons_zero, List.set_cons_succ]
              refine wpAnyH_done (by kernel_rfl) ?_ _
              refine NoPanic.normal ?_
              go_wp2
              refine bodyPost_ret (results_cell_row rfl _ _ (w.heap.size + 1) 38 #[.bool true, .slice A5 n1 c5, .slice A6 d2.length c6, .int .i64 num, .string ⟨#[]⟩] (0, 0) _ rfl ?_ Tryd.underlying38 rfl (by kernel_rfl)) rfl ?_
              · exact Ses.got_block2 (by omega) L1.out _ _ _ _ _ _ _
              · have hz5 := HB5.out.size
                have hz6 := HB6.out.size
                have q5 : ∀ k, (Value.slice A5 d1.length c5).ownBlock = some k → k ≠ w.heap.size + 1 ∧ k ≠ w.heap.size + 1 + 1 := fun k hk => by
                  have hlt : w2.heap.size ≤ k := Kd.R_base HR5.out k hk
                  omega
                have q6 : ∀ k, (Value.slice A6 d2.length c6).ownBlock = some k → k ≠ w.heap.size + 1 ∧ k ≠ w.heap.size + 1 + 1 := fun k hk => by
                  have hlt : w5.heap.size ≤ k := Kd.R_base HR6.out k hk
                  omega
                have D5 : Ses.DataB w.heap.size d1 w6 (.slice A5 d1.length c5) := Kd.R_below (Kd.R_lower HR5.out (show w.heap.size ≤ w2.heap.size by omega)) HB6.out
                have D6 : Ses.DataB w.heap.size d2 w6 (.slice A6 d2.length c6) := Kd.R_lower HR6.out (by omega)
                rw [HN1.out]
                refine ⟨A5, _, c5, A6, _, c6, rfl, ?_, ?_, ?_, ?_⟩
                · iterate 5 refine Ses.DataB_far ?_ (fun k hk => (q5 k hk).1) _
                  iterate 2 refine Ses.DataB_far ?_ (fun k hk => (q5 k hk).2) _
                  exact D5
                · iterate 5 refine Ses.DataB_far ?_ (fun k hk => (q6 k hk).1) _
                  iterate 2 refine Ses.DataB_far ?_ (fun k hk => (q6 k hk).2) _
                  exact D6
                · iterate 7 refine Ses.RS.far ?_ _ (by omega) (by omega)
                  exact (hXr.out.bl HB5.out).bl HB6.out
                · iterate 7 refine grown_far ?_ _ (by omega)
                  exact grown_bl (grown_bl hXg.out HB5.out) HB6.out
            exact AllReadyH.nil
          exact AllReadyH.nil
        exact AllReadyH.nil
      exact AllReadyH.nil
    exact AllReadyH.nil
  refine AllReadyH.cons (o := _) rfl (fun K hK => ?_) ?_
  · go_simp
    refine hK.out _ _ trivial (fun hHeld => ?_)
    clear hK K
    try simp only [Act.put, List.setIfInBounds_toArray, List.set_cons_zero, List.set_cons_succ]
    refine wpAnyH_ready (rs := [1]) (by kernel_rfl) (by simp) ?_
    refine AllReadyH.cons (o := _) rfl (fun K hK => ?_) ?_
    · go_simp
      refine hK.out _ _ trivial (fun hHeld => ?_)
      clear hK K
      try simp only [Act.put, List.setIfInBounds_toArray, List.set_cons_zero, List.set_cons_succ]
      refine wpAnyH_ready (rs := [2]) (by kernel_rfl) (by simp) ?_
      refine AllReadyH.cons (o := _) rfl (fun K hK => ?_) ?_
      · go_simp
        go_at_call 17
        refine (HC1.out _ ?hb).mono ?_
        case hb => exact below_drew (Below.refl _ _)
        rintro e w5 ⟨v5, rfl, hR5, hb⟩
        obtain ⟨A5, c5, rfl, -, -, hab5, -⟩ := Ses.R_slots hR5
        have HR5 := Lib.hid hR5; have HA5 := Lib.hid hab5; have HB5 := Lib.hid ((below_drew (Below.refl w2.heap.size w2)).trans hb)
        have h1 := (HB5.out.block _ hn1).trans K1.out; have h2 := (HB5.out.block _ hn2).trans K2.out
        clear y0 z0 fy0 fz0 y1 z1 fy1 fz1 y2 z2 fy2 fz2 y3 z3 fy3 fz3 y4 z4 fy4 fz4
        have y0 := xb_cell h2 0; have z0 := xb_cell h1 0; have fy0 := blk_free h2 0; have fz0 := blk_free h1 0; have y1 := xb_cell h2 1; have z1 := xb_cell h1 1; have fy1 := blk_free h2 1; have fz1 := blk_free h1 1; have y2 := xb_cell h2 2; have z2 := xb_cell h1 2; have fy2 := blk_free h2 2; have fz2 := blk_free h1 2; have y3 := xb_cell h2 3; have z3 := xb_cell h1 3; have fy3 := blk_free h2 3; have fz3 := blk_free h1 3; have y4 := xb_cell h2 4; have z4 := xb_cell h1 4; have fy4 := blk_free h2 4; have fz4 := blk_free h1 4; simp only [List.getElem?_toArray, List.getElem?_cons_zero, List.getElem?_cons_succ] at y0 z0 y1 z1 y2 z2 y3 z3 y4 z4
        have H1 := Lib.hid h1; have H2 := Lib.hid h2
        clear hR5 hab5 hb h1 h2
        rw [← HN1.out]
        go_wp2
        refine hK.out _ _ trivial (fun hHeld => ?_)
        clear hK K
        try simp only [Act.put, List.setIfInBounds_toArray, List.set_cons_zero, List.set_cons_succ]
        refine wpAnyH_take (i := 6) (v := ?_) rfl (by kernel_rfl) (by kernel_rfl) (by kernel_rfl) (fun _ _ _ h => h) (Or.inl ⟨by rfl, ?_⟩) (by assumption) ?_
        rotate_left
        · intro w hSw
          go_simp
          try (with_reducible rfl)
        try simp only [Act.put, List.setIfInBounds_toArray, List.set_cons_zero, List.set_cons_succ]
        refine wpAnyH_ready (rs := [5]) (by kernel_rfl) (by simp) ?_
        refine AllReadyH.cons (o := _) rfl (fun K hK => ?_) ?_
        · go_simp
          go_at_call 17
          refine (HC2.out _ ?hb).mono ?_
          case hb => exact HB5.out
          rintro e w6 ⟨v6, rfl, hR6, hb⟩
          obtain ⟨A6, c6, rfl, -, -, hab6, -⟩ := Ses.R_slots hR6
          have HR6 := Lib.hid hR6; have HA6 := Lib.hid hab6; have HB6 := Lib.hid hb
          have h1 := (hb.block _ (xb_lt H1.out)).trans H1.out; have h2 := (hb.block _ (xb_lt H2.out)).trans H2.out
          clear y0 z0 fy0 fz0 y1 z1 fy1 fz1 y2 z2 fy2 fz2 y3 z3 fy3 fz3 y4 z4 fy4 fz4
          have y0 := xb_cell h2 0; have z0 := xb_cell h1 0; have fy0 := blk_free h2 0; have fz0 := blk_free h1 0; have y1 := xb_cell h2 1; have z1 := xb_cell h1 1; have fy1 := blk_free h2 1; have fz1 := blk_free h1 1; have y2 := xb_cell h2 2; have z2 := xb_cell h1 2; have fy2 := blk_free h2 2; have fz2 := blk_free h1 2; have y3 := xb_cell h2 3; have z3 := xb_cell h1 3; have fy3 := blk_free h2 3; have fz3 := blk_free h1 3; have y4 := xb_cell h2 4; have z4 := xb_cell h1 4; have fy4 := blk_free h2 4; have fz4 := blk_free h1 4; simp only [List.getElem?_toArray, List.getElem?_cons_zero, List.getElem?_cons_succ] at y0 z0 y1 z1 y2 z2 y3 z3 y4 z4
          have L1 := Lib.hid h1; have L2 := Lib.hid h2
          clear hR6 hab6 hb h1 h2
          go_wp2
          refine hK.out _ _ trivial (fun hHeld => ?_)
          clear hK K
          try simp only [Act.put, List.setIfInBounds_toArray, List.set_cons_zero, List.set_cons_succ]
          refine wpAnyH_ready (rs := [7]) (by kernel_rfl) (by simp) ?_
          refine AllReadyH.cons (o := _) rfl (fun K hK => ?_) ?_
          · go_simp
            refine hK.out _ _ trivial (fun hHeld => ?_)
            clear hK K
            try simp only [Act.put, List.setIfInBounds_toArray, List.set_cons_zero, List.set_cons_succ]
            refine wpAnyH_take (i := 8) (v := ?_) rfl (by kernel_rfl) (by kernel_rfl) (by kernel_rfl) (fun _ _ _ h => h) (Or.inl ⟨by rfl, ?_⟩) (by assumption) ?_
            rotate_left
            · intro w hSw
              go_simp
              try (with_reducible rfl)
            try simp only [Act.put, List.setIfInBounds_toArray, List.set_cons_zero, List.set_cons_succ]
            refine wpAnyH_ready (rs := [9]) (by kernel_rfl) (by simp) ?_
            refine AllReadyH.cons (o := _) rfl (fun K hK => ?_) ?_
            · go_simp
              refine hK.out _ _ trivial (fun hHeld => ?_)
              clear hK K
              try simp only [Act.put, List.setIfInBounds_toArray, List.set_cons_zero, List.set_cons_succ]
              refine wpAnyH_done (by kernel_rfl) ?_ _
              refine NoPanic.normal ?_
              go_wp2
              refine bodyPost_ret (results_cell_row rfl _ _ (w.heap.size + 1) 38 #[.bool true, .slice A5 n1 c5, .slice A6 d2.length c6, .int .i64 num, .string ⟨#[]⟩] (0, 0) _ rfl ?_ Tryd.underlying38 rfl (by kernel_rfl)) rfl ?_
              · exact Ses.got_block2 (by omega) L1.out _ _ _ _ _ _ _
              · have hz5 := HB5.out.size
                have hz6 := HB6.out.size
                have q5 : ∀ k, (Value.slice A5 d1.length c5).ownBlock = some k → k ≠ w.heap.size + 1 ∧ k ≠ w.heap.size + 1 + 1 := fun k hk => by
                  have hlt : w2.heap.size ≤ k := Kd.R_base HR5.out k hk
                  omega
                have q6 : ∀ k, (Value.slice A6 d2.length c6).ownBlock = some k → k ≠ w.heap.size + 1 ∧ k ≠ w.heap.size + 1 + 1 := fun k hk => by
                  have hlt : w5.heap.size ≤ k := Kd.R_base HR6.out k hk
                  omega
                have D5 : Ses.DataB w.heap.size d1 w6 (.slice A5 d1.length c5) := Kd.R_below (Kd.R_lower HR5.out (show w.heap.size ≤ w2.heap.size by omega)) HB6.out
                have D6 : Ses.DataB w.heap.size d2 w6 (.slice A6 d2.length c6) := Kd.R_lower HR6.out (by omega)
                rw [HN1.out]
                refine ⟨A5, _, c5, A6, _, c6, rfl, ?_, ?_, ?_, ?_⟩
                · iterate 5 refine Ses.DataB_far ?_ (fun k hk => (q5 k hk).1) _
                  iterate 2 refine Ses.DataB_far ?_ (fun k hk => (q5 k hk).2) _
                  exact D5
                · iterate 5 refine Ses.DataB_far ?_ (fun k hk => (q6 k hk).1) _
                  iterate 2 refine Ses.DataB_far ?_ (fun k hk => (q6 k hk).2) _
                  exact D6
                · iterate 7 refine Ses.RS.far ?_ _ (by omega) (by omega)
                  exact (hXr.out.bl HB5.out).bl HB6.out
                · iterate 7 refine grown_far ?_ _ (by omega)
                  exact grown_bl (grown_bl hXg.out HB5.out) HB6.out
            exact AllReadyH.nil
          exact AllReadyH.nil
        exact AllReadyH.nil
      exact AllReadyH.nil
    exact AllReadyH.nil
  exact AllReadyH.nil
end Go.Proofs.YtdnahdddkagfhaaDoor.X
/- Numbers of a size are read, with either end ahead: GetInt64 without compression. -/
namespace Go.Proofs.YtdnahdddkagfhaaDoor.X
open Go.RowKit Go.Proofs.YtdnahdddkagfhaaDoorW.PrintWords Go.Proofs.YtdnahdddkagfhaaDoorW.PrintLast Go.Proofs.YtdnahdddkagfhaaDoorW.PrintMore
attribute [local go_sem] setCell_drewN alloc_drewN
set_option linter.unusedVariables false
set_option linter.unusedSimpArgs false
def Ses.eightL (xs : List Int) : List Int := xs ++ List.replicate (8 - xs.length) 0
def Ses.leVal (xs : List Int) : Int := (Lib.leNat ((Ses.eightL xs).map fun y => UInt8.ofNat y.toNat) : Int)
theorem Ses.eightL_row (xs : List Int) (h : xs.length ≤ 8) : (Ses.zeros8.toList.take 0 ++ nums .u8 xs ++ Ses.zeros8.toList.drop (0 + (nums .u8 xs).length)).toArray = (nums .u8 (Ses.eightL xs)).toArray := by
  have hl : (nums .u8 xs).length = xs.length := nums_length ..
  have e : Ses.zeros8.toList = List.replicate 8 (Value.int .u8 0) := rfl
  rw [hl, e, Nat.zero_add]
  unfold Ses.eightL
  simp only [nums, List.map_append, List.map_replicate, List.take_zero, List.nil_append, List.drop_replicate]
theorem Ses.eightL_cells (xs : List Int) (h : xs.length ≤ 8) (i : Nat) (hi : i < 8) (hb : ∀ x ∈ xs, 0 ≤ x ∧ x ≤ 255) : ((nums .u8 (Ses.eightL xs)).toArray)[i]? = some (.int .u8 ((((Ses.eightL xs).map fun y => UInt8.ofNat y.toNat).getD i 0).toNat : Int)) := by
  have hlen : (Ses.eightL xs).length = 8 := by unfold Ses.eightL; rw [List.length_append, List.length_replicate]; omega
  have hby : ∀ y ∈ Ses.eightL xs, 0 ≤ y ∧ y ≤ 255 := by
    intro y hy
    unfold Ses.eightL at hy
    rcases List.mem_append.1 hy with hy | hy
    · exact hb y hy
    · rw [(List.mem_replicate.1 hy).2]; omega
  generalize Ses.eightL xs = ys at hlen hby ⊢
  rw [List.getElem?_toArray]
  unfold nums
  rw [List.getElem?_map, List.getElem?_eq_getElem (by omega), List.getD_eq_getElem?_getD, List.getElem?_map, List.getElem?_eq_getElem (by omega)]
  have h1 := hby _ (List.getElem_mem (show i < ys.length by omega))
  simp only [Option.map_some, Option.getD_some]
  rw [UInt8.toNat_ofNat']
  congr 2
  omega
set_option maxHeartbeats 4000000 in
set_option maxRecDepth 100000 in
theorem getInt64_be (w : World) (b g c : Nat) (l : List Int) (idx m : Nat) (big : Bool) (chunk : Int) (h : Ses.RS w b g c l idx big chunk) (hm0 : 0 < m) (hm8 : m ≤ 8) (hlen : idx + m ≤ l.length) (hby : ∀ y ∈ l, 0 ≤ y ∧ y ≤ 255) :
    Calls Tryd.prog 73 #[.pointer (some ⟨b, 0, none⟩), .int .i64 m, .bool false, .bool true] w fun e w' => e = .returned (.tuple #[.int .i64 (wrap64 (Ses.beVal ((l.drop idx).take m))), .nilIface]) ∧ Ses.RS w' b g c l (idx + m) big chunk ∧ w.grownBy w' (some b) := by
  have HR2 := Lib.hid (read_ok w b g c l idx m big chunk h hlen hm0)
  obtain ⟨xs, hxs⟩ : ∃ xs, xs = (l.drop idx).take m := ⟨_, rfl⟩
  rw [← hxs]
  have hxl : xs.length = m := by rw [hxs, List.length_take, List.length_drop]; omega
  have hxb : ∀ y ∈ xs, 0 ≤ y ∧ y ≤ 255 := fun y hy => hby y (by rw [hxs] at hy; exact List.mem_of_mem_drop (List.mem_of_mem_take hy))
  have hinfo : (Tryd.prog.info? 5).map (·.size) = some 1 := by kernel_rfl
  have HIn : Hid (∀ W : World, Ses.RS W b g c l (idx + m) big chunk → ∀ j v, (nums .u8 xs)[j]? = some v → W.cell? ((⟨g, idx, none⟩ : Addr).add j) = some v) := Lib.hid (fun W hW j v hv => by
    unfold nums at hv
    rw [List.getElem?_map] at hv
    have hj : j < xs.length := by
      by_cases hj : j < xs.length
      · exact hj
      · rw [List.getElem?_eq_none (by omega)] at hv
        cases hv
    rw [Ses.drop_cells hW.cells (idx := idx) j (by omega)]
    rw [List.getElem?_eq_getElem hj] at hv
    have e : (l.drop idx).getD j 0 = xs[j] := by
      simp only [hxs, List.getElem_take]
      rw [List.getD_eq_getElem?_getD, List.getElem?_eq_getElem]
      rfl
    rw [e]
    exact hv)
  have HCp : Hid (∀ W : World, Ses.RS W b g c l (idx + m) big chunk → (Builtin.copy_ #[22, 22] 3 #[.slice (some ⟨W.heap.size, 8 - m, none⟩) m m, .slice (some ⟨g, idx, none⟩) m (c - idx)]).run Tryd.prog (W.alloc (.cells Ses.zeros8 5)) = .ok (goInt m) ((W.alloc (.cells Ses.zeros8 5)).setRow W.heap.size (nums .u8 (Ses.eight xs)).toArray)) := Lib.hid (fun W hW => by
    have hln : (nums .u8 xs).length = m := (nums_length ..).trans hxl
    have hc := run_copy_row (P := Tryd.prog) (W.alloc (.cells Ses.zeros8 5)) 22 22 3 5 W.heap.size (8 - m) m m ⟨g, idx, none⟩ m (c - idx) Ses.zeros8 5 (nums .u8 xs) Tryd.underlying22 hinfo (xb_new _ _) (by rw [hln]; exact (Nat.min_self _).symm) (fun j v hj => cell_alloc _ (HIn.out W hW j v hj)) (by rw [hln]; show 8 - m + m ≤ 8; omega) (nums_one xs)
    have he := Ses.eight_row xs (by omega)
    rw [hxl] at he
    rw [he, hln] at hc
    exact hc)
  have HBE : Hid (∀ W : World, Calls Tryd.prog 83 #[.agg #[], .slice (some ⟨W.heap.size, 0, none⟩) 8 8] ((W.alloc (.cells Ses.zeros8 5)).setRow W.heap.size (nums .u8 (Ses.eight xs)).toArray) fun e w' => e = .returned (.int .u64 (Ses.beVal xs)) ∧ Below W.heap.size W w') := Lib.hid (fun W => by
    have hW3 : Below W.heap.size W ((W.alloc (.cells Ses.zeros8 5)).setRow W.heap.size (nums .u8 (Ses.eight xs)).toArray) := below_setRow (below_alloc (Below.refl _ _) _) (Nat.le_refl _) _
    obtain ⟨W3, hW⟩ : ∃ W3, W3 = (W.alloc (.cells Ses.zeros8 5)).setRow W.heap.size (nums .u8 (Ses.eight xs)).toArray := ⟨_, rfl⟩
    rw [← hW] at hW3 ⊢
    suffices key : Calls Tryd.prog 83 #[.agg #[], .slice (some ⟨W.heap.size, 0, none⟩) 8 8] W3 (fun e w' => e = .returned (.int .u64 (Ses.beVal xs)) ∧ Below W3.heap.size W3 w') from key.mono (fun e w' h => ⟨h.1, hW3.trans (h.2.mono hW3.size)⟩)
    have hrow : W3.heap[W.heap.size]? = some (.cells (nums .u8 (Ses.eight xs)).toArray 5 (0, 0)) := by rw [hW]; exact setRow_heap _ _ Ses.zeros8 _ _ _ (xb_new _ _)
    have hc : ∀ i, i < 8 → W3.cell? ⟨W.heap.size, 0 + i, none⟩ = some (.int .u8 ((((Ses.eight xs).map fun y => UInt8.ofNat y.toNat).getD i 0).toNat : Int)) := fun i hi => by
      rw [Nat.zero_add, xb_cell hrow]
      exact Ses.eight_cells xs (by omega) i hi hxb
    have hlen8 : ((Ses.eight xs).map fun y => UInt8.ofNat y.toNat).length = 8 := by rw [List.length_map]; unfold Ses.eight; rw [List.length_append, List.length_replicate]; omega
    have hbe := Tryd.binary_BE_Uint64 W.heap.size 0 8 8 _ _ _ _ _ _ _ _ W3 (Nat.le_refl _) (hc 0 (by omega)) (hc 1 (by omega)) (hc 2 (by omega)) (hc 3 (by omega)) (hc 4 (by omega)) (hc 5 (by omega)) (hc 6 (by omega)) (hc 7 (by omega))
    unfold Ses.beVal
    generalize ((Ses.eight xs).map fun y => UInt8.ofNat y.toNat) = bs at hlen8 hbe ⊢
    match bs, hlen8 with
    | [a0, a1, a2, a3, a4, a5, a6, a7], _ => exact hbe)
  have hmk := Ses.make8
  generalize Ses.beVal xs = V at *
  have k0 : (0 : Int) ≤ (8 : Int) - (m : Int) := by omega
  have k1 : (8 : Int) - (m : Int) ≤ 8 := by omega
  have k2 : ((8 : Int) - (m : Int)).toNat = 8 - m := by omega
  have k3 : IntKind.i64.wrap ((8 : Int) - (m : Int)) = (8 : Int) - (m : Int) := (IntKind.wrap_i64 _).trans (by omega)
  have k4 : ((m : Int) == 0) = false := beq_eq_false_iff_ne.2 (by omega)
  have k5 : (8 = 8 - m) = False := eq_false (by omega)
  have k6 : 8 - (8 - m) = m := by omega
  have k7 : (0 : Int) ≤ (m : Int) := by omega
  have k8 : (m : Int) ≤ 8 := by omega
  clear h hlen hxs hxb hby
  go_enter Tryd.func73, Tryd.ntmps73
  go_wp2_with (first | (go_at_call 82; (with_reducible refine HR2.out.mono ?_); rintro e w2 ⟨rfl, hrs, hg⟩; have HS2 := Lib.hid hrs; have HG2 := Lib.hid hg; have hcp := HCp.out _ hrs; clear hrs hg) | (go_at_call 83; (with_reducible refine (HBE.out _).mono ?_); rintro e w4 ⟨rfl, hb4⟩; have HB4 := Lib.hid hb4; clear hb4))
  go_ret2
  exact ⟨rfl, HS2.out.bl HB4.out, grown_bl HG2.out HB4.out⟩
set_option maxHeartbeats 4000000 in
set_option maxRecDepth 100000 in
theorem getInt64_le (w : World) (b g c : Nat) (l : List Int) (idx m : Nat) (big : Bool) (chunk : Int) (h : Ses.RS w b g c l idx big chunk) (hm0 : 0 < m) (hm8 : m ≤ 8) (hlen : idx + m ≤ l.length) (hby : ∀ y ∈ l, 0 ≤ y ∧ y ≤ 255) :
    Calls Tryd.prog 73 #[.pointer (some ⟨b, 0, none⟩), .int .i64 m, .bool false, .bool false] w fun e w' => e = .returned (.tuple #[.int .i64 (wrap64 (Ses.leVal ((l.drop idx).take m))), .nilIface]) ∧ Ses.RS w' b g c l (idx + m) big chunk ∧ w.grownBy w' (some b) := by
  have HR2 := Lib.hid (read_ok w b g c l idx m big chunk h hlen hm0)
  obtain ⟨xs, hxs⟩ : ∃ xs, xs = (l.drop idx).take m := ⟨_, rfl⟩
  rw [← hxs]
  have hxl : xs.length = m := by rw [hxs, List.length_take, List.length_drop]; omega
  have hxb : ∀ y ∈ xs, 0 ≤ y ∧ y ≤ 255 := fun y hy => hby y (by rw [hxs] at hy; exact List.mem_of_mem_drop (List.mem_of_mem_take hy))
  have hinfo : (Tryd.prog.info? 5).map (·.size) = some 1 := by kernel_rfl
  have HIn : Hid (∀ W : World, Ses.RS W b g c l (idx + m) big chunk → ∀ j v, (nums .u8 xs)[j]? = some v → W.cell? ((⟨g, idx, none⟩ : Addr).add j) = some v) := Lib.hid (fun W hW j v hv => by
    unfold nums at hv
    rw [List.getElem?_map] at hv
    have hj : j < xs.length := by
      by_cases hj : j < xs.length
      · exact hj
      · rw [List.getElem?_eq_none (by omega)] at hv
        cases hv
    rw [Ses.drop_cells hW.cells (idx := idx) j (by omega)]
    rw [List.getElem?_eq_getElem hj] at hv
    have e : (l.drop idx).getD j 0 = xs[j] := by
      simp only [hxs, List.getElem_take]
      rw [List.getD_eq_getElem?_getD, List.getElem?_eq_getElem]
      rfl
    rw [e]
    exact hv)
  have HCp : Hid (∀ W : World, Ses.RS W b g c l (idx + m) big chunk → (Builtin.copy_ #[22, 22] 3 #[.slice (some ⟨W.heap.size, 0, none⟩) m 8, .slice (some ⟨g, idx, none⟩) m (c - idx)]).run Tryd.prog (W.alloc (.cells Ses.zeros8 5)) = .ok (goInt m) ((W.alloc (.cells Ses.zeros8 5)).setRow W.heap.size (nums .u8 (Ses.eightL xs)).toArray)) := Lib.hid (fun W hW => by
    have hln : (nums .u8 xs).length = m := (nums_length ..).trans hxl
    have hc := run_copy_row (P := Tryd.prog) (W.alloc (.cells Ses.zeros8 5)) 22 22 3 5 W.heap.size 0 m 8 ⟨g, idx, none⟩ m (c - idx) Ses.zeros8 5 (nums .u8 xs) Tryd.underlying22 hinfo (xb_new _ _) (by rw [hln]; exact (Nat.min_self _).symm) (fun j v hj => cell_alloc _ (HIn.out W hW j v hj)) (by rw [hln]; show 0 + m ≤ 8; omega) (nums_one xs)
    have he := Ses.eightL_row xs (by omega)
    rw [he, hln] at hc
    exact hc)
  have HBE : Hid (∀ W : World, Calls Tryd.prog 84 #[.agg #[], .slice (some ⟨W.heap.size, 0, none⟩) 8 8] ((W.alloc (.cells Ses.zeros8 5)).setRow W.heap.size (nums .u8 (Ses.eightL xs)).toArray) fun e w' => e = .returned (.int .u64 (Ses.leVal xs)) ∧ Below W.heap.size W w') := Lib.hid (fun W => by
    have hW3 : Below W.heap.size W ((W.alloc (.cells Ses.zeros8 5)).setRow W.heap.size (nums .u8 (Ses.eightL xs)).toArray) := below_setRow (below_alloc (Below.refl _ _) _) (Nat.le_refl _) _
    obtain ⟨W3, hW⟩ : ∃ W3, W3 = (W.alloc (.cells Ses.zeros8 5)).setRow W.heap.size (nums .u8 (Ses.eightL xs)).toArray := ⟨_, rfl⟩
    rw [← hW] at hW3 ⊢
    suffices key : Calls Tryd.prog 84 #[.agg #[], .slice (some ⟨W.heap.size, 0, none⟩) 8 8] W3 (fun e w' => e = .returned (.int .u64 (Ses.leVal xs)) ∧ Below W3.heap.size W3 w') from key.mono (fun e w' h => ⟨h.1, hW3.trans (h.2.mono hW3.size)⟩)
    have hrow : W3.heap[W.heap.size]? = some (.cells (nums .u8 (Ses.eightL xs)).toArray 5 (0, 0)) := by rw [hW]; exact setRow_heap _ _ Ses.zeros8 _ _ _ (xb_new _ _)
    have hc : ∀ i, i < 8 → W3.cell? ⟨W.heap.size, 0 + i, none⟩ = some (.int .u8 ((((Ses.eightL xs).map fun y => UInt8.ofNat y.toNat).getD i 0).toNat : Int)) := fun i hi => by
      rw [Nat.zero_add, xb_cell hrow]
      exact Ses.eightL_cells xs (by omega) i hi hxb
    have hlen8 : ((Ses.eightL xs).map fun y => UInt8.ofNat y.toNat).length = 8 := by rw [List.length_map]; unfold Ses.eightL; rw [List.length_append, List.length_replicate]; omega
    have hbe := Tryd.binary_LE_Uint64 W.heap.size 0 8 8 _ _ _ _ _ _ _ _ W3 (Nat.le_refl _) (hc 0 (by omega)) (hc 1 (by omega)) (hc 2 (by omega)) (hc 3 (by omega)) (hc 4 (by omega)) (hc 5 (by omega)) (hc 6 (by omega)) (hc 7 (by omega))
    unfold Ses.leVal
    generalize ((Ses.eightL xs).map fun y => UInt8.ofNat y.toNat) = bs at hlen8 hbe ⊢
    match bs, hlen8 with
    | [a0, a1, a2, a3, a4, a5, a6, a7], _ => exact hbe)
  have hmk := Ses.make8
  generalize Ses.leVal xs = V at *
  have k0 : (0 : Int) ≤ (8 : Int) - (m : Int) := by omega
  have k1 : (8 : Int) - (m : Int) ≤ 8 := by omega
  have k2 : ((8 : Int) - (m : Int)).toNat = 8 - m := by omega
  have k3 : IntKind.i64.wrap ((8 : Int) - (m : Int)) = (8 : Int) - (m : Int) := (IntKind.wrap_i64 _).trans (by omega)
  have k4 : ((m : Int) == 0) = false := beq_eq_false_iff_ne.2 (by omega)
  have k5 : (8 = 8 - m) = False := eq_false (by omega)
  have k6 : 8 - (8 - m) = m := by omega
  have k7 : (0 : Int) ≤ (m : Int) := by omega
  have k8 : (m : Int) ≤ 8 := by omega
  clear h hlen hxs hxb hby
  go_enter Tryd.func73, Tryd.ntmps73
  go_wp2_with (first | (go_at_call 82; (with_reducible refine HR2.out.mono ?_); rintro e w2 ⟨rfl, hrs, hg⟩; have HS2 := Lib.hid hrs; have HG2 := Lib.hid hg; have hcp := HCp.out _ hrs; clear hrs hg) | (go_at_call 84; (with_reducible refine (HBE.out _).mono ?_); rintro e w4 ⟨rfl, hb4⟩; have HB4 := Lib.hid hb4; clear hb4))
  go_ret2
  exact ⟨rfl, HS2.out.bl HB4.out, grown_bl HG2.out HB4.out⟩
end Go.Proofs.YtdnahdddkagfhaaDoor.X
/- A session reads: a DLC, a key and a value, a fixed CLR, numbers of a size. -/
namespace Go.Proofs.YtdnahdddkagfhaaDoor.X
open Go.RowKit Go.Proofs.YtdnahdddkagfhaaDoorW.PrintWords Go.Proofs.YtdnahdddkagfhaaDoorW.PrintMore
attribute [local go_sem] setCell_drewN alloc_drewN
set_option linter.unusedVariables false
set_option linter.unusedSimpArgs false
theorem Ses.C_grown {w w' : World} {b : Nat} {A : Option Addr} {l : List Int} (h : Kd.C (Kd.int .u8) w A l.length l) (k : w.grownBy w' (some b)) (hb : ∀ a, A = some a → a.block ≠ b) : Kd.C (Kd.int .u8) w' A l.length l := Ses.C_kp2 h (Kp2.of k b) hb hb
set_option maxHeartbeats 4000000 in
set_option maxRecDepth 100000 in
/-- A DLC that stands ahead: its CLR, but no more bytes than its number tells. -/
theorem getDlc_any (w : World) (b g c : Nat) (l : List Int) (idx B cc n : Nat) (big : Bool) (chunk : Int) (d : List Int) (h : Ses.RS w b g c l idx big chunk) (hB : B ≤ w.heap.size) (hn0 : 0 < n) (hn1 : n ≤ 100000) (hd2 : d.length ≤ 100000) (hc1 : 1 ≤ cc) (hc2 : cc ≤ 252) (hp : Ses.Pre l idx (Dg.packed (n : Int) ++ Dg.clrB big cc d)) (hby : ∀ y ∈ l, 0 ≤ y ∧ y ≤ 255) :
    Calls Tryd.prog 72 #[.pointer (some ⟨b, 0, none⟩)] w (Ses.RdP b g c l (idx + (Dg.packed (n : Int) ++ Dg.clrB big cc d).length) big chunk (d.take n) B w) := by
  obtain ⟨hp1, hp2⟩ := hp.app
  rw [List.length_append, ← Nat.add_assoc]
  have HI := Lib.hid (getInt_packed w b g c l idx big true chunk 4 (n : Int) h hp1 (by omega) (by omega) hby)
  obtain ⟨i1, hi1⟩ : ∃ i1, i1 = idx + (Dg.packed (n : Int)).length := ⟨_, rfl⟩
  rw [← hi1] at HI hp2 ⊢
  have HC := Lib.hid (fun (W : World) (hr : Ses.RS W b g c l i1 big chunk) (hz : B ≤ W.heap.size) => getClr_any W b g c l i1 B cc big chunk d hr hz hd2 hc1 hc2 hp2 hby)
  obtain ⟨m, hm⟩ : ∃ m, m = d.length := ⟨_, rfl⟩
  have HM := Lib.hid hm
  have hm2 : m ≤ 100000 := by omega
  have HB := Lib.hid hB
  clear h hp hp1 hp2 hi1 hd2 hm hB
  have t0 : decide ((n : Int) > 0) = true := decide_eq_true (by omega)
  by_cases hgt : m > n
  · have t1 : decide ((m : Int) > (n : Int)) = true := decide_eq_true (by omega)
    go_enter Tryd.func72, Tryd.ntmps72
    go_wp2_with (first | (go_at_call 74; (with_reducible refine HI.out.mono ?_); rintro e w1 ⟨rfl, hrs, hg⟩; have HRS := Lib.hid hrs; have HG := Lib.hid hg; clear hrs hg) | (go_at_call 70; (with_reducible refine (HC.out _ HRS.out ?hz).mono ?_); (case hz => (have := HB.out; have := HG.out.size; omega)); rintro e w2 ⟨A, c1, rfl, hC, hab, hrs, hg, hle⟩; (rw [← HM.out] at hle ⊢); (have hlc : (n : Int) ≤ (c1 : Int) := by omega); have HCl := Lib.hid hC; have HAb := Lib.hid hab; have HRT := Lib.hid hrs; have HH := Lib.hid hg; clear hC hab hrs hg))
    go_ret2
    have hl : (d.take n).length = n := by have := HM.out; rw [List.length_take]; omega
    refine ⟨A, c1, by rw [hl]; rfl, ?_, (fun a ha => by have := HAb.out a ha; have := HG.out.size; omega), HRT.out, grown_trans HG.out HH.out, by rw [hl]; omega⟩
    have hC := HCl.out
    obtain ⟨g0, o0, rfl, -, -⟩ := C_base hC (by have := HM.out; omega)
    have h := xC_drop hC 0 n (by have := HM.out; omega)
    rw [List.drop_zero, Nat.add_zero] at h
    exact h
  · have t1 : decide ((m : Int) > (n : Int)) = false := decide_eq_false (by omega)
    go_enter Tryd.func72, Tryd.ntmps72
    go_wp2_with (first | (go_at_call 74; (with_reducible refine HI.out.mono ?_); rintro e w1 ⟨rfl, hrs, hg⟩; have HRS := Lib.hid hrs; have HG := Lib.hid hg; clear hrs hg) | (go_at_call 70; (with_reducible refine (HC.out _ HRS.out ?hz).mono ?_); (case hz => (have := HB.out; have := HG.out.size; omega)); rintro e w2 ⟨A, c1, rfl, hC, hab, hrs, hg, hle⟩; (rw [← HM.out]); have HLe := Lib.hid hle; have HCl := Lib.hid hC; have HAb := Lib.hid hab; have HRT := Lib.hid hrs; have HH := Lib.hid hg; clear hC hab hrs hg hle))
    go_ret2
    rw [List.take_of_length_le (by have := HM.out; omega)]
    rw [HM.out]
    exact ⟨A, c1, rfl, HCl.out, (fun a ha => by have := HAb.out a ha; have := HG.out.size; omega), HRT.out, grown_trans HG.out HH.out, HLe.out⟩
set_option maxHeartbeats 4000000 in
set_option maxRecDepth 100000 in
/-- A DLC of nothing. -/
theorem getDlc_none (w : World) (b g c : Nat) (l : List Int) (idx B : Nat) (big : Bool) (chunk : Int) (h : Ses.RS w b g c l idx big chunk) (hp : Ses.Pre l idx [0]) (hby : ∀ y ∈ l, 0 ≤ y ∧ y ≤ 255) :
    Calls Tryd.prog 72 #[.pointer (some ⟨b, 0, none⟩)] w (Ses.RdP b g c l (idx + 1) big chunk [] B w) := by
  have hi := getInt_packed w b g c l idx big true chunk 4 0 h (show Ses.Pre l idx (Dg.packed 0) from hp) (by omega) (by omega) hby
  have HI := Lib.hid (show Calls Tryd.prog 74 #[.pointer (some ⟨b, 0, none⟩), .int .i64 4, .bool true, .bool true] w fun e w' => e = .returned (.tuple #[.int .i64 0, .nilIface]) ∧ Ses.RS w' b g c l (idx + 1) big chunk ∧ w.grownBy w' (some b) from hi)
  clear h hp hi
  go_enter Tryd.func72, Tryd.ntmps72
  go_wp2_with (go_at_call 74; (with_reducible refine HI.out.mono ?_); rintro e w1 ⟨rfl, hrs, hg⟩; have HRS := Lib.hid hrs; have HG := Lib.hid hg; clear hrs hg)
  go_ret2
  exact ⟨none, 0, rfl, C_empty _ _ _, (fun a ha => by cases ha), HRS.out, HG.out, Nat.le_refl _⟩
/-- A DLC as a session writes it. -/
theorem getDlc_whole (w : World) (b g c : Nat) (l : List Int) (idx B cc : Nat) (big : Bool) (chunk : Int) (d : List Int) (h : Ses.RS w b g c l idx big chunk) (hB : B ≤ w.heap.size) (hd2 : d.length ≤ 100000) (hc1 : 1 ≤ cc) (hc2 : cc ≤ 252) (hp : Ses.Pre l idx (Dg.dlcB big cc d)) (hby : ∀ y ∈ l, 0 ≤ y ∧ y ≤ 255) :
    Calls Tryd.prog 72 #[.pointer (some ⟨b, 0, none⟩)] w (Ses.RdP b g c l (idx + (Dg.dlcB big cc d).length) big chunk d B w) := by
  unfold Dg.dlcB at hp ⊢
  by_cases h0 : d = []
  · rw [if_pos h0] at hp ⊢
    subst h0
    exact getDlc_none w b g c l idx B big chunk h hp hby
  · rw [if_neg h0] at hp ⊢
    have hl : 0 < d.length := List.length_pos_iff.2 h0
    have hr := getDlc_any w b g c l idx B cc d.length big chunk d h hB hl hd2 hd2 hc1 hc2 hp hby
    rw [List.take_length] at hr
    exact hr
set_option maxHeartbeats 8000000 in
set_option maxRecDepth 100000 in
theorem getKeyVal_any (w : World) (b g c : Nat) (l : List Int) (idx B cc fl : Nat) (big : Bool) (chunk : Int) (d1 d2 : List Int) (h : Ses.RS w b g c l idx big chunk) (hB : B ≤ w.heap.size) (hd1 : d1.length ≤ 100000) (hd2 : d2.length ≤ 100000) (hfl : fl ≤ 255) (hc1 : 1 ≤ cc) (hc2 : cc ≤ 252) (hp : Ses.Pre l idx (Dg.dlcB big cc d1 ++ Dg.dlcB big cc d2 ++ Dg.packed (fl : Int))) (hby : ∀ y ∈ l, 0 ≤ y ∧ y ≤ 255) :
    Calls Tryd.prog 75 #[.pointer (some ⟨b, 0, none⟩)] w (Ses.KvP b g c l (idx + (Dg.dlcB big cc d1 ++ Dg.dlcB big cc d2 ++ Dg.packed (fl : Int)).length) big chunk d1 d2 (fl : Int) B w) := by
  obtain ⟨hp12, hp3⟩ := hp.app
  obtain ⟨hp1, hp2⟩ := hp12.app
  rw [List.length_append] at hp3 ⊢
  rw [List.length_append]
  obtain ⟨i1, hi1⟩ : ∃ i1, i1 = idx + (Dg.dlcB big cc d1).length := ⟨_, rfl⟩
  obtain ⟨i2, hi2⟩ : ∃ i2, i2 = i1 + (Dg.dlcB big cc d2).length := ⟨_, rfl⟩
  obtain ⟨i3, hi3⟩ : ∃ i3, i3 = i2 + (Dg.packed (fl : Int)).length := ⟨_, rfl⟩
  rw [← hi1] at hp2
  rw [← Nat.add_assoc, ← hi1, ← hi2] at hp3
  rw [show idx + ((Dg.dlcB big cc d1).length + (Dg.dlcB big cc d2).length + (Dg.packed (fl : Int)).length) = i3 by omega]
  have HD1 := Lib.hid (getDlc_whole w b g c l idx 0 cc big chunk d1 h (Nat.zero_le _) hd1 hc1 hc2 hp1 hby)
  rw [← hi1] at HD1
  have HD2 := Lib.hid (fun (W : World) (hr : Ses.RS W b g c l i1 big chunk) => getDlc_whole W b g c l i1 0 cc big chunk d2 hr (Nat.zero_le _) hd2 hc1 hc2 hp2 hby)
  rw [← hi2] at HD2
  have HI := Lib.hid (fun (W : World) (hr : Ses.RS W b g c l i2 big chunk) => getInt_packed W b g c l i2 big true chunk 4 (fl : Int) hr hp3 (by omega) (by omega) hby)
  rw [← hi3] at HI
  have HB := Lib.hid hB
  have hbw := Lib.hid (xb_lt h.blk)
  clear h hp hp12 hp1 hp2 hp3 hi1 hi2 hi3 hB
  go_enter Tryd.func75, Tryd.ntmps75
  go_wp2_with (first | (go_at_call 72; (with_reducible refine HD1.out.mono ?_); rintro e w1 ⟨A1, c1, rfl, hC, hab, hrs, hg, -⟩; have HC1 := Lib.hid hC; have HA1 := Lib.hid hab; have HR1 := Lib.hid hrs; have HG1 := Lib.hid hg; clear hC hab hrs hg) | (go_at_call 72; (with_reducible refine (HD2.out _ HR1.out).mono ?_); rintro e w2 ⟨A2, c2, rfl, hC, hab, hrs, hg, -⟩; have HC2 := Lib.hid hC; have HA2 := Lib.hid hab; have HR2 := Lib.hid hrs; have HG2 := Lib.hid hg; clear hC hab hrs hg) | (go_at_call 74; (with_reducible refine (HI.out _ HR2.out).mono ?_); rintro e w3 ⟨rfl, hrs, hg⟩; have HR3 := Lib.hid hrs; have HG3 := Lib.hid hg; clear hrs hg))
  refine bodyPost_ret (v := .tuple #[.slice A1 d1.length c1, .slice A2 d2.length c2, .int .i64 fl, .nilIface]) (by simp [results, Tryd.results75, go_sem]) rfl ?_
  have hz1 := HG1.out.size
  have hb0 := hbw.out
  have hf1 : ∀ a, A1 = some a → w.heap.size ≤ a.block := fun a ha => by have := HA1.out a ha; omega
  have hf2 : ∀ a, A2 = some a → w1.heap.size ≤ a.block := fun a ha => by have := HA2.out a ha; omega
  refine ⟨A1, c1, A2, c2, rfl, ?_, (fun a ha => .inr (hf1 a ha)), ?_, (fun a ha => .inr (by have := hf2 a ha; omega)), HR3.out, grown_trans (grown_trans HG1.out HG2.out) HG3.out⟩
  · exact Ses.C_grown (Ses.C_grown HC1.out HG2.out (fun a ha => by have := hf1 a ha; omega)) HG3.out (fun a ha => by have := hf1 a ha; omega)
  · exact Ses.C_grown HC2.out HG3.out (fun a ha => by have := hf2 a ha; omega)
namespace Ses
theorem le_zeros : ∀ z : Nat, Lib.leNat (List.replicate z 0) = 0
  | 0 => rfl
  | z + 1 => by rw [List.replicate_succ, Lib.leNat, le_zeros z]; rfl
theorem le_digs0 (z : Nat) : ∀ ds : List Int, (∀ d ∈ ds, 0 ≤ d ∧ d ≤ 255) → (Lib.leNat ((ds.map fun y => UInt8.ofNat y.toNat) ++ List.replicate z 0) : Int) = Dg.digs ds
  | [], _ => by rw [List.map_nil, List.nil_append, le_zeros]; rfl
  | d :: ds, h => by
    have ih := le_digs0 z ds (fun x hx => h x (by simp [hx]))
    have hd := h d (by simp)
    rw [List.map_cons, List.cons_append, Lib.leNat, Dg.digs, Int.natCast_add, Int.natCast_mul, ih]
    have e : ((UInt8.ofNat d.toNat).toNat : Int) = d := by
      rw [UInt8.toNat_ofNat']
      omega
    rw [e]
    rfl
theorem leVal_dg (ds : List Int) (h : ∀ d ∈ ds, 0 ≤ d ∧ d ≤ 255) : leVal ds = Dg.digs ds := by
  unfold leVal eightL
  rw [List.map_append, List.map_replicate]
  exact le_digs0 _ ds h
theorem plain_digs (j : Nat) (x : Int) (h0 : 0 ≤ x) (h1 : x < 256 ^ j) : Dg.digs (Dg.plainL j x) = x := by
  have hz : ∀ (l : List Int) (z : Nat), Dg.digs (l ++ List.replicate z 0) = Dg.digs l := by
    intro l z
    induction l with
    | nil =>
      rw [List.nil_append]
      induction z with
      | zero => rfl
      | succ z ih =>
        rw [List.replicate_succ]
        show 0 + 256 * Dg.digs (List.replicate z 0) = 0
        rw [ih]
        rfl
    | cons d l ih => rw [List.cons_append, Dg.digs, Dg.digs, ih]
  rw [Dg.plainL_dgF j x h0 h1, hz, Dg.dgF_digs j x h0 h1]
end Ses
/-- A compressed number, whatever it is. -/
theorem getInt64_packedW (w : World) (b g c : Nat) (l : List Int) (idx : Nat) (big sb : Bool) (chunk size n : Int) (h : Ses.RS w b g c l idx big chunk) (hp : Ses.Pre l idx (Dg.packed n)) (h0 : 0 ≤ n) (h1 : n < 18446744073709551616) (hby : ∀ y ∈ l, 0 ≤ y ∧ y ≤ 255) :
    Calls Tryd.prog 73 #[.pointer (some ⟨b, 0, none⟩), .int .i64 size, .bool true, .bool sb] w fun e w' => e = .returned (.tuple #[.int .i64 (wrap64 n), .nilIface]) ∧ Ses.RS w' b g c l (idx + (Dg.packed n).length) big chunk ∧ w.grownBy w' (some b) := by
  have hl8 : (Dg.dg n).length ≤ 8 := Dg.dg_len n
  have hdb : ∀ d ∈ Dg.dg n, 0 ≤ d ∧ d ≤ 255 := Dg.dgF_byt 8 n
  have hdg : Dg.digs (Dg.dg n) = n := Dg.dgF_digs 8 n h0 (by omega)
  have hpl : (Dg.packed n).length = (Dg.dg n).length + 1 := by rw [Dg.packed, List.length_cons, List.length_reverse]
  rw [hpl]
  unfold Dg.packed at hp
  obtain ⟨q0, q1, q2⟩ := hp.cons
  by_cases hz : (Dg.dg n).length = 0
  · have hd : Dg.dg n = [] := List.eq_nil_of_length_eq_zero hz
    have hn : n = 0 := by rw [← hdg, hd]; rfl
    rw [hz] at q1 ⊢
    rw [hn, show wrap64 0 = 0 by unfold wrap64; omega]
    exact getInt64_zero w b g c l idx big sb chunk size h q1 (by omega)
  · have hr := getInt64_plus w b g c l idx (Dg.dg n).length big sb chunk ((Dg.dg n).length : Int) size h (by omega) hl8 q1 (Ses.b128w ⟨_, by omega⟩) rfl (by have := q2.len; rw [List.length_reverse] at this; omega) hby
    have ht := q2.take
    rw [List.length_reverse] at ht
    rw [ht, Ses.beVal_dg _ hdb, hdg, show idx + 1 + (Dg.dg n).length = idx + ((Dg.dg n).length + 1) by omega] at hr
    exact hr
/-- A number of a size. -/
theorem getInt64_sized (w : World) (b g c : Nat) (l : List Int) (idx m : Nat) (big sb : Bool) (chunk n : Int) (h : Ses.RS w b g c l idx big chunk) (hm0 : 0 < m) (hm8 : m ≤ 8) (hp : Ses.Pre l idx (if sb then (Dg.plainL m n).reverse else Dg.plainL m n)) (h0 : 0 ≤ n) (h1 : n < 256 ^ m) (hby : ∀ y ∈ l, 0 ≤ y ∧ y ≤ 255) :
    Calls Tryd.prog 73 #[.pointer (some ⟨b, 0, none⟩), .int .i64 m, .bool false, .bool sb] w fun e w' => e = .returned (.tuple #[.int .i64 (wrap64 n), .nilIface]) ∧ Ses.RS w' b g c l (idx + m) big chunk ∧ w.grownBy w' (some b) := by
  have hdb := Dg.plainL_byt m n
  have hdg := Ses.plain_digs m n h0 h1
  have hll := Dg.plainL_len m n
  cases sb with
  | true =>
    rw [if_pos rfl] at hp
    have hr := getInt64_be w b g c l idx m big chunk h hm0 hm8 (by have := hp.len; rw [List.length_reverse, hll] at this; exact this) hby
    have ht := hp.take
    rw [List.length_reverse, hll] at ht
    rw [ht, Ses.beVal_dg _ hdb, hdg] at hr
    exact hr
  | false =>
    rw [if_neg (by simp)] at hp
    have hr := getInt64_le w b g c l idx m big chunk h hm0 hm8 (by have := hp.len; rw [hll] at this; exact this) hby
    have ht := hp.take
    rw [hll] at ht
    rw [ht, Ses.leVal_dg _ hdb, hdg] at hr
    exact hr
set_option maxHeartbeats 4000000 in
set_option maxRecDepth 100000 in
/-- A fixed CLR that stands ahead. -/
theorem getFixed_any (w : World) (b g c : Nat) (l : List Int) (idx B : Nat) (big : Bool) (chunk : Int) (d : List Int) (h : Ses.RS w b g c l idx big chunk) (hB : g < B) (hd2 : d.length ≤ 100000) (hp : Ses.Pre l idx (Dg.fixedB d)) (hby : ∀ y ∈ l, 0 ≤ y ∧ y ≤ 255) :
    Calls Tryd.prog 77 #[.pointer (some ⟨b, 0, none⟩)] w (Ses.RdP b g c l (idx + (Dg.fixedB d).length) big chunk d B w) := by
  unfold Dg.fixedB at hp ⊢
  by_cases hs : d.length ≤ 252
  · rw [if_pos hs] at hp ⊢
    obtain ⟨q0, q1, q2⟩ := hp.cons
    by_cases h0 : 0 < d.length
    · have hgb := getByte_ok w b g c l idx big chunk h q0
      rw [q1] at hgb
      have HR := Lib.hid hgb
      have HY := Lib.hid (fun (W : World) (hr : Ses.RS W b g c l (idx + 1) big chunk) => getBytes_any W b g c l (idx + 1) B big chunk d hr q2 hB)
      rw [List.length_cons, show idx + (d.length + 1) = idx + 1 + d.length by omega]
      obtain ⟨k, hk⟩ : ∃ k, k = d.length := ⟨_, rfl⟩
      have HK := Lib.hid hk
      rw [← hk] at HR HY h0 hs ⊢
      clear h hp q0 q1 q2 hgb hk
      have d0 : ((k : Int) == 0) = false := beq_eq_false_iff_ne.2 (by omega)
      have d1 : ((k : Int) == 255) = false := beq_eq_false_iff_ne.2 (by omega)
      have d2 : ((k : Int) == 253) = false := beq_eq_false_iff_ne.2 (by omega)
      have d3 : ((k : Int) == 254) = false := beq_eq_false_iff_ne.2 (by omega)
      have pw : IntKind.i64.wrap (k : Int) = (k : Int) := (IntKind.wrap_i64 _).trans (by omega)
      go_enter Tryd.func77, Tryd.ntmps77
      go_wp2_with (first | (go_at_call 68; (with_reducible refine HR.out.mono ?_); rintro e w1 ⟨rfl, hrs, hg⟩; have HRS := Lib.hid hrs; have HG := Lib.hid hg; clear hrs hg) | (go_at_call 69; (with_reducible refine (HY.out _ HRS.out).mono ?_); rintro e w2 ⟨A, c1, rfl, hC, hab, hrs, hg, hle⟩; (rw [← HK.out]); have HCl := Lib.hid hC; have HAb := Lib.hid hab; have HRT := Lib.hid hrs; have HH := Lib.hid hg; have HLe := Lib.hid hle; clear hC hab hrs hg hle))
      go_ret2
      rw [HK.out]
      refine ⟨A, c1, rfl, HCl.out, (fun a ha => by have := HAb.out a ha; have := HG.out.size; omega), ?_, grown_trans HG.out HH.out, HLe.out⟩
      have hr := HRT.out
      rw [HK.out] at hr
      exact hr
    · have hd : d = [] := List.eq_nil_of_length_eq_zero (by omega)
      subst hd
      refine (getFixed_none w b g c l idx big chunk h q0 (.inl q1)).mono ?_
      rintro e w' ⟨rfl, hrs, hg⟩
      exact ⟨none, 0, rfl, C_empty _ _ _, (fun a ha => by cases ha), hrs, hg, Nat.le_refl _⟩
  · rw [if_neg hs] at hp ⊢
    obtain ⟨q0, q1, q2⟩ := hp.cons
    obtain ⟨q3, q4⟩ := q2.app
    have hgb := getByte_ok w b g c l idx big chunk h q0
    rw [q1] at hgb
    have HR := Lib.hid hgb
    have hll : (Dg.plainL 4 (d.length : Int)).reverse.length = 4 := by rw [List.length_reverse, Dg.plainL_len]
    rw [hll] at q4
    have HI := Lib.hid (fun (W : World) (hr : Ses.RS W b g c l (idx + 1) big chunk) => getInt_of W b ((4 : Nat) : Int) (wrap64 (d.length : Int)) false true (fun w' => Ses.RS w' b g c l (idx + 1 + 4) big chunk ∧ W.grownBy w' (some b)) (getInt64_sized W b g c l (idx + 1) 4 big true chunk (d.length : Int) hr (by omega) (by omega) (by rw [if_pos rfl]; exact q3) (by omega) (by omega) hby))
    have HY := Lib.hid (fun (W : World) (hr : Ses.RS W b g c l (idx + 1 + 4) big chunk) => getBytes_any W b g c l (idx + 1 + 4) B big chunk d hr q4 hB)
    rw [List.length_cons, List.length_append, hll, show idx + (4 + d.length + 1) = idx + 1 + 4 + d.length by omega]
    rw [show wrap64 (d.length : Int) = (d.length : Int) by unfold wrap64; omega, show ((4 : Nat) : Int) = 4 from rfl] at HI
    obtain ⟨k, hk⟩ : ∃ k, k = d.length := ⟨_, rfl⟩
    have HK := Lib.hid hk
    rw [← hk] at HI HY hs ⊢
    clear h hp q0 q1 q2 q3 q4 hgb hk hll
    go_enter Tryd.func77, Tryd.ntmps77
    go_wp2_with (first | (go_at_call 68; (with_reducible refine HR.out.mono ?_); rintro e w1 ⟨rfl, hrs, hg⟩; have HRS := Lib.hid hrs; have HG := Lib.hid hg; clear hrs hg) | (go_at_call 74; (with_reducible refine (HI.out _ HRS.out).mono ?_); rintro e w3 ⟨rfl, hrs, hg⟩; have HRI := Lib.hid hrs; have HGI := Lib.hid hg; clear hrs hg) | (go_at_call 69; (with_reducible refine (HY.out _ HRI.out).mono ?_); rintro e w2 ⟨A, c1, rfl, hC, hab, hrs, hg, hle⟩; (rw [← HK.out]); have HCl := Lib.hid hC; have HAb := Lib.hid hab; have HRT := Lib.hid hrs; have HH := Lib.hid hg; have HLe := Lib.hid hle; clear hC hab hrs hg hle))
    go_ret2
    rw [HK.out]
    refine ⟨A, c1, rfl, HCl.out, (fun a ha => by have := HAb.out a ha; have := HG.out.size; have := HGI.out.size; omega), ?_, grown_trans (grown_trans HG.out HGI.out) HH.out, HLe.out⟩
    have hr := HRT.out
    rw [HK.out] at hr
    exact hr
end Go.Proofs.YtdnahdddkagfhaaDoor.X
/- impl.SessionGet of any steps. -/
namespace Go.Proofs.YtdnahdddkagfhaaDoor.X
open Go.RowKit Go.Proofs.YtdnahdddkagfhaaDoorW.PrintWords Go.Proofs.YtdnahdddkagfhaaDoorW.PrintMore
attribute [local go_sem] setCell_drewN alloc_drewN
set_option linter.unusedVariables false
set_option linter.unusedSimpArgs false
namespace Ses
theorem R_low {w : World} {B C base : Nat} {v : Value} {l : List Int} (h : DataB B l w v) (hb : base ≤ C ∧ C ≤ B) : Kd.R (Kd.int .u8) 5 w base (fun k => C ≤ k) v l :=
  Kd.R_lower (Kd.R_reok (ok := fun k => C ≤ k) rfl h (fun k hk => Nat.le_trans hb.2 (Kd.R_base h k hk))) (Nat.le_trans hb.1 hb.2)
/-- A step of a reader. -/
structure GS where
  kind : Int
  size : Int
  sb : Bool
  sc : Bool
def gsKd : Kd GS := Kd.iso (Kd.pair (Kd.int .i64) (Kd.pair (Kd.int .i64) (Kd.pair Kd.bool Kd.bool))) (fun s => (s.kind, s.size, s.sb, s.sc))
theorem gs_open {w : World} {p : GS} {c : List Value} (h : gsKd.K w p c) : c = [.int .i64 p.kind, .int .i64 p.size, .bool p.sb, .bool p.sc] := by
  obtain ⟨c0, d0, rfl, h0, c1, d1, rfl, h1, c2, d2, rfl, h2, h3⟩ := h
  have e0 : c0 = [_] := h0
  have e1 : c1 = [_] := h1
  have e2 : c2 = [_] := h2
  have e3 : d2 = [_] := h3
  subst e0; subst e1; subst e2; subst e3
  rfl
/-- What a step of a reader gives. -/
structure Gt where
  ok : Bool
  data : List Int
  other : List Int
  num : Int
def gtKd : Kd Gt := Kd.iso (Kd.pair Kd.bool (Kd.pair (Kd.slice 5 (Kd.int .u8)) (Kd.pair (Kd.slice 5 (Kd.int .u8)) (Kd.pair (Kd.int .i64) Kd.string)))) (fun g => (g.ok, g.data, g.other, g.num, (⟨#[]⟩ : ByteArray)))
theorem gt_make {w : World} {base : Nat} {ok : Nat → Prop} {o : Gt} {v1 v2 : Value} (h1 : Kd.R (Kd.int .u8) 5 w base ok v1 o.data) (h2 : Kd.R (Kd.int .u8) 5 w base ok v2 o.other) : gtKd.M w base ok o [.bool o.ok, v1, v2, .int .i64 o.num, .string ⟨#[]⟩] :=
  ⟨[_], _, rfl, rfl, [_], _, rfl, ⟨v1, rfl, h1⟩, [_], _, rfl, ⟨v2, rfl, h2⟩, [_], _, rfl, rfl, rfl⟩
/-- What a step leaves, whether it goes well or not. -/
def GotQ (b g c : Nat) (l : List Int) (idx' : Nat) (big : Bool) (chunk : Int) (o : Gt) (w : World) (e : Ending) (w' : World) : Prop :=
  ∃ A n cc A' n' cc', e = .returned (.agg #[.bool o.ok, .slice A n cc, .slice A' n' cc', .int .i64 o.num, .string ⟨#[]⟩]) ∧ DataB w.heap.size o.data w' (.slice A n cc) ∧ DataB w.heap.size o.other w' (.slice A' n' cc') ∧ RS w' b g c l idx' big chunk ∧ w.grownBy w' (some b)
theorem GotP.q {b g c : Nat} {l : List Int} {idx' : Nat} {big : Bool} {chunk : Int} {d1 d2 : List Int} {num : Int} {w : World} {e : Ending} {w' : World} (h : GotP b g c l idx' big chunk d1 d2 num w e w') : GotQ b g c l idx' big chunk ⟨true, d1, d2, num⟩ w e w' := h
/-- Steps, and what they give: up to the first that fails. -/
structure Goes (ss : List GS) (outs : List Gt) : Prop where
  len : outs.length ≤ ss.length
  ok : ∀ j o, outs[j]? = some o → j + 1 < outs.length → o.ok = true
  last : outs.length = ss.length ∨ ∃ o, outs[outs.length - 1]? = some o ∧ 0 < outs.length ∧ o.ok = false
theorem rest_any (w : World) (b g c : Nat) (l : List Int) (idx : Nat) (big : Bool) (chunk : Int) (h : RS w b g c l idx big chunk) (hk : idx ≤ l.length) :
    Calls Tryd.prog 49 #[.pointer (some ⟨b, 0, none⟩)] w fun e w' => ∃ A cc, e = .returned (.slice A (l.drop idx).length cc) ∧ Kd.C (Kd.int .u8) w' A (l.drop idx).length (l.drop idx) ∧ w' = w.drew := by
  refine (rest_ok w b g c l idx big chunk h hk).mono ?_
  rintro e w' ⟨rfl, rfl⟩
  refine ⟨_, _, by rw [List.length_drop], ?_, rfl⟩
  have hm := h.max
  by_cases hz : idx < l.length
  · have hcap := h.cap
    rw [if_neg (by omega)]
    refine C_of (by rw [List.length_drop]; omega) (fun i hi => ?_)
    rw [List.length_drop] at hi
    have e := h.cells (idx + i) (by omega)
    have e2 : (l.drop idx).getD i 0 = l.getD (idx + i) 0 := by simp [List.getD_eq_getElem?_getD, List.getElem?_drop]
    rw [e2]
    exact e
  · have hd : l.drop idx = [] := List.drop_eq_nil_of_le (by omega)
    rw [hd]
    exact ⟨rfl, by simp, fun h0 => absurd h0 (Nat.lt_irrefl 0)⟩
end Ses
end Go.Proofs.YtdnahdddkagfhaaDoor.X
