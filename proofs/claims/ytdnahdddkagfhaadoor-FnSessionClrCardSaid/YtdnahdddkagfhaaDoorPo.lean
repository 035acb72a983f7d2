/- impl.SessionPut of one CLR of two bytes; laws.sessionLive. -/
import Derived.Test.YtdnahdddkagfhaaDoorPl
import Derived.Test.YtdnahdddkagfhaaDoorGl
namespace Go.Proofs.YtdnahdddkagfhaaDoor.X
open Go.RowKit Go.Proofs.YtdnahdddkagfhaaDoorW.PrintWords Go.Proofs.YtdnahdddkagfhaaDoorW.PrintMore
attribute [local go_sem] setCell_drewN alloc_drewN
set_option linter.unusedVariables false
set_option linter.unusedSimpArgs false
theorem Ses.src_of {w : World} {g : Nat} {x y : Int} (h : ∀ i : Nat, i < 2 → w.cell? ⟨g, i, none⟩ = some (.int .u8 ([x, y].getD i 0))) : ∀ j v, (nums .u8 [x, y])[j]? = some v → w.cell? ((⟨g, 0, none⟩ : Addr).add j) = some v := by
  intro j v hv
  rcases j with _ | _ | j
  · have := h 0 (by omega)
    have e : v = .int .u8 x := by simpa [nums] using hv.symm
    rw [e]
    exact this
  · have := h 1 (by omega)
    have e : v = .int .u8 y := by simpa [nums] using hv.symm
    rw [e]
    exact this
  · simp [nums] at hv
set_option maxHeartbeats 4000000 in
set_option maxRecDepth 100000 in
theorem put_two (x y : Int) (big : Bool) (chunk : Int) (w : World) (g0 gd cd : Nat) (s0 : w.cell? ⟨g0, 0, none⟩ = some (.int .i64 1)) (s1 : w.cell? ⟨g0, 1, none⟩ = some (.slice (some ⟨gd, 0, none⟩) 2 cd)) (s2 : w.cell? ⟨g0, 2, none⟩ = some (.slice none 0 0)) (s3 : w.cell? ⟨g0, 3, none⟩ = some (.int .i64 0)) (s4 : w.cell? ⟨g0, 4, none⟩ = some (.int .u64 0)) (s5 : w.cell? ⟨g0, 5, none⟩ = some (.int .u8 0)) (s6 : w.cell? ⟨g0, 6, none⟩ = some (.int .u8 0)) (s7 : w.cell? ⟨g0, 7, none⟩ = some (.bool false)) (s8 : w.cell? ⟨g0, 8, none⟩ = some (.bool false))
    (hd : ∀ i : Nat, i < 2 → w.cell? ⟨gd, i, none⟩ = some (.int .u8 ([x, y].getD i 0))) :
    Calls Tryd.prog 16 #[.slice (some ⟨g0, 0, none⟩) 1 1, .bool big, .int .i64 chunk] w fun e w' => ∃ v, e = .returned v ∧ Kd.R (Kd.int .u8) 5 w' w.heap.size (fun _ => True) v [2, x, y] ∧ Below w.heap.size w w' := by
  have hg0 := World.block_lt_of_cell? w _ s0
  have HD := Lib.hid hd
  clear hd
  go_enter Tryd.func16, Tryd.ntmps16
  go_wp2_with (go_at_call 39; (with_reducible refine (newSession _ w ⟨_, _, _, rfl⟩).mono ?_); rintro e w2 ⟨rfl, rfl⟩)
  have HBk : Hid ((w.alloc (.cells #[.slice none 0 0, .slice none 0 0, .int .i64 0, .int .i8 0, .int .i64 0, .bool big, .int .i64 chunk] 82)).heap[w.heap.size]? = some (.cells #[.slice none 0 0, .slice none 0 0, .int .i64 0, .int .i8 0, .int .i64 0, .bool big, .int .i64 chunk] 82 (0, 0))) := Lib.hid (xb_new _ _)
  have HBw : Hid (Below w.heap.size w (w.alloc (.cells #[.slice none 0 0, .slice none 0 0, .int .i64 0, .int .i8 0, .int .i64 0, .bool big, .int .i64 chunk] 82))) := Lib.hid (below_alloc (Below.refl _ _) _)
  generalize w.alloc (.cells #[.slice none 0 0, .slice none 0 0, .int .i64 0, .int .i8 0, .int .i64 0, .bool big, .int .i64 chunk] 82) = w3 at *
  go_loopw [24] (fun v24 wr => (v24 = .int .i64 0 ∧ wr = w3) ∨ (v24 = .int .i64 1 ∧ Hid (∃ g cap cur cs', wr.heap[w.heap.size]? = some (.cells cs' 82 (0, 0)) ∧ cs'[1]? = some (.slice (some ⟨g, 0, none⟩) 3 cap) ∧ cs'[2]? = some (.int .i64 0) ∧ wr.heap[g]? = some (.cells cur 5 (0, 0)) ∧ 3 ≤ cap ∧ cap ≤ maxLen ∧ cur.size = cap ∧ cur.toList.take 3 = nums .u8 [2, x, y]) ∧ Hid (Below w.heap.size w wr))) (fun v24 _ => 1 - (intOf v24).toNat)
  case atStart => exact .inl ⟨rfl, rfl⟩
  case round =>
    rcases hrel with ⟨rfl, rfl⟩ | ⟨rfl, HP, HBr⟩
    · replace s0 := bl_cell HBw.out s0
      replace s1 := bl_cell HBw.out s1
      replace s2 := bl_cell HBw.out s2
      replace s3 := bl_cell HBw.out s3
      replace s4 := bl_cell HBw.out s4
      replace s5 := bl_cell HBw.out s5
      replace s6 := bl_cell HBw.out s6
      replace s7 := bl_cell HBw.out s7
      replace s8 := bl_cell HBw.out s8
      go_wp2
      have HB4 : Hid (Below wr.heap.size wr (wr.alloc (.cells #[.int .i64 1, .slice (some ⟨gd, 0, none⟩) 2 cd, .slice none 0 0, .int .i64 0, .int .u64 0, .int .u8 0, .int .u8 0, .bool false, .bool false] 29))) := Lib.hid (below_alloc (Below.refl _ _) _)
      have hq : (wr.alloc (.cells #[.int .i64 1, .slice (some ⟨gd, 0, none⟩) 2 cd, .slice none 0 0, .int .i64 0, .int .u64 0, .int .u8 0, .int .u8 0, .bool false, .bool false] 29)).heap[wr.heap.size]? = some (.cells #[.int .i64 1, .slice (some ⟨gd, 0, none⟩) 2 cd, .slice none 0 0, .int .i64 0, .int .u64 0, .int .u8 0, .int .u8 0, .bool false, .bool false] 29 (0, 0)) := xb_new _ _
      have q0 := xb_cell hq 0
      have q1 := xb_cell hq 1
      have q2 := xb_cell hq 2
      simp only [List.getElem?_toArray, List.getElem?_cons_zero, List.getElem?_cons_succ] at q0 q1 q2
      clear hq s0 s1 s2 s3 s4 s5 s6 s7 s8
      generalize (wr.alloc (.cells #[.int .i64 1, .slice (some ⟨gd, 0, none⟩) 2 cd, .slice none 0 0, .int .i64 0, .int .u64 0, .int .u8 0, .int .u8 0, .bool false, .bool false] 29)) = w4 at *
      have HCd := Lib.hid (Tryd.bytes_Clone_at ⟨gd, 0, none⟩ 2 cd [x, y] w4.drew rfl (by omega) (fun i hi => by
        have h4 := bl_cell HB4.out (bl_cell HBw.out (HD.out i hi))
        unfold Addr.add
        split
        · rename_i hz
          have hz' : i = 0 := by simpa using hz
          subst hz'
          exact h4
        · simpa using h4))
      have HCn := Lib.hid (fun n c W => Tryd.bytes_Clone_nil n c W)
      have hzb := xb_lt HBk.out
      have hz4 := HB4.out.size
      go_region_held3 (fun w' => w'.cell? ⟨wr.heap.size, 1, none⟩ = some (.slice (some ⟨gd, 0, none⟩) 2 cd) ∧ w'.cell? ⟨wr.heap.size, 2, none⟩ = some (.slice none 0 0)) (first | exact ⟨q1, q2⟩ | exact ⟨k1, k2⟩ | assumption) (first | (go_at_call 17; (with_reducible refine HCd.out.mono ?_); rintro e w5 ⟨v5, rfl, hown, hne, hb5⟩; obtain ⟨g5, c5, rfl, hbg5, hgl5, hnc5, -, hcl5⟩ := Ses.row_form hown hne; have k0 := bl_cell hb5 q0; have k1 := bl_cell hb5 q1; have k2 := bl_cell hb5 q2; have HB5 := Lib.hid hb5; have HC5 := Lib.hid hcl5; clear hown hne hb5 hcl5) | (go_at_call 17; (with_reducible refine (HCn.out _ _ _).mono ?_); rintro e w6 ⟨rfl, rfl⟩))
      have hgs : w4.heap.size ≤ g5 := hbg5
      have hbk6 : w6.heap[w.heap.size]? = some (.cells #[.slice none 0 0, .slice none 0 0, .int .i64 0, .int .i8 0, .int .i64 0, .bool big, .int .i64 chunk] 82 (0, 0)) := (HB5.out.block w.heap.size (by show w.heap.size < w4.heap.size; omega)).trans ((HB4.out.block w.heap.size hzb).trans HBk.out)
      have HPc := Lib.hid (putClr_two w.heap.size _ 0 w6 x y ⟨g5, 0, none⟩ c5 hbk6 rfl rfl rfl (Ses.src_of HC5.out) (by show g5 ≠ _; omega) hgl5)
      clear hbk6
      go_wp2_with (go_at_call 41; (with_reducible refine HPc.out.mono ?_); rintro e w7 ⟨g, cap, cur, cs', rfl, hb7, h1, h2, hg7, hlc, hcm, hcu, hta, hgb, hgr⟩; have HP7 := Lib.hid hb7; have HG7 := Lib.hid hg7; have HT7 := Lib.hid hta; have HGr7 := Lib.hid hgr; have HI1 := Lib.hid h1; have HI2 := Lib.hid h2; clear hb7 h1 h2 hg7 hta hgr)
      go_roundw
      case measure => simp [intOf]
      case rel =>
        have hB6 : Below w.heap.size w w6 := HBw.out.trans ((HB4.out.mono HBw.out.size).trans ((below_drew (Below.refl _ _)).trans (HB5.out.mono (by show w.heap.size ≤ w4.heap.size; omega))))
        exact .inr ⟨rfl, Lib.hid ⟨g, cap, cur, cs', HP7.out, HI1.out, HI2.out, HG7.out, hlc, hcm, hcu, HT7.out⟩, Lib.hid (grown_below hB6 HGr7.out hB6.size (Nat.le_refl _))⟩
    · obtain ⟨g, cap, cur, cs', hb7, h1, h2, hg7, hlc, hcm, hcu, hta⟩ := HP.out
      have hcells : ∀ i : Nat, i < 3 → wr.cell? ⟨g, i, none⟩ = some (.int .u8 (([2, x, y] : List Int).getD i 0)) := fun i hi => by
        rw [xb_cell hg7, ← Array.getElem?_toList]
        have e : cur.toList[i]? = (nums .u8 [2, x, y])[i]? := by rw [← hta, List.getElem?_take, if_pos hi]
        rw [e]
        rcases i with _ | _ | _ | i
        · rfl
        · rfl
        · rfl
        · omega
      have HO := Lib.hid (output_ok w.heap.size g cap wr ((xb_cell hb7 1).trans h1) ((xb_cell hb7 2).trans h2) hlc (by unfold maxLen at hcm; exact hcm))
      have HC2 := Lib.hid (fun n => Tryd.bytes_Clone_at ⟨g, 0, none⟩ 3 cap [2, x, y] (wr.drewN n) rfl (by omega) (fun i hi => by
        have h4 : (wr.drewN n).cell? ⟨g, i, none⟩ = some (.int .u8 (([2, x, y] : List Int).getD i 0)) := hcells i hi
        unfold Addr.add
        split
        · rename_i hz
          have hz' : i = 0 := by simpa using hz
          subst hz'
          exact h4
        · simpa using h4))
      clear hb7 h1 h2 hg7 hlc hcm hcu hta hcells HP s0 s1 s2 s3 s4 s5 s6 s7 s8
      go_wp2_with (first | (go_at_call 47; (with_reducible refine HO.out.mono ?_); rintro e w8 ⟨rfl, n8, rfl⟩) | (go_at_call 17; (with_reducible refine (HC2.out _).mono ?_); rintro e w9 ⟨v9, rfl, hown, hne, hb9⟩; have HO9 := Lib.hid hown; have HB9 := Lib.hid hb9; clear hown hne hb9))
      go_ret
      have hB : Below wr.heap.size wr w9 := (bl_drewN wr n8).trans (HB9.out.mono (Nat.le_refl _))
      exact ⟨v9, rfl, Ses.R_clone HO9.out rfl w.heap.size HBr.out.size, HBr.out.trans (hB.mono HBr.out.size)⟩
end Go.Proofs.YtdnahdddkagfhaaDoor.X
