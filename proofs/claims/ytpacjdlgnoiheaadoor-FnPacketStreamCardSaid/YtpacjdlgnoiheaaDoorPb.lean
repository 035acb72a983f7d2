/- (*Packet).bytes, and impl.DataBytes over it. -/
import Derived.Test.YtpacjdlgnoiheaaDoorPk
import Derived.Test.YtpacjdlgnoiheaaDoorWZeros
import Derived.Deep.RegionHeld3
namespace Go.Proofs.YtpacjdlgnoiheaaDoor.X
open Go.RowKit Go.Proofs.YtpacjdlgnoiheaaDoorW.PrintWords Go.Proofs.YtpacjdlgnoiheaaDoorW.PrintMore
attribute [local go_sem] setCell_drewN alloc_drewN
set_option linter.unusedVariables false

/-- The first bytes of a head: the length in two bytes or in four, the type and the flag. -/
def headZ (long : Bool) (len ty fl : Int) (zs : List Int) : List Int :=
  if long then ((((((zs.set 0 (len / 16777216)).set 1 (len / 65536 % 256)).set 2 (len / 256 % 256)).set 3 (len % 256)).set 4 ty).set 5 fl)
  else ((((zs.set 0 (len % 65536 / 256)).set 1 (len % 65536 % 256)).set 4 ty).set 5 fl)
/-- A row in a block of its own, known whole. -/
def RetWhole (n : Nat) (l : List Int) (w : World) (e : Ending) (w' : World) : Prop :=
  ∃ g cap cur, e = .returned (.slice (some ⟨g, 0, none⟩) n cap) ∧ w'.heap[g]? = some (.cells cur 5 (0, 0)) ∧ cur.size = cap ∧ cap ≤ maxLen ∧ n ≤ cap ∧ cur.toList.take n = nums .u8 l ∧ w.heap.size ≤ g ∧ Below w.heap.size w w'
theorem row_open {w : World} {base : Nat} {v : Value} {l : List Int} (h : Kd.R (Kd.int .u8) 5 w base (fun _ => True) v l) (hl : 0 < l.length) :
    ∃ g cap cur, v = .slice (some ⟨g, 0, none⟩) l.length cap ∧ w.heap[g]? = some (.cells cur 5 (0, 0)) ∧ cur.size = cap ∧ cap ≤ maxLen ∧ l.length ≤ cap ∧ cur.toList.take l.length = nums .u8 l ∧ base ≤ g := by
  have ho := Kd.own_of_R h
  rcases ho.2 with ⟨_, h0⟩ | ⟨g, cap, cur, rfl, hb, hh, h1, h2, h3, h4⟩
  · omega
  · exact ⟨g, cap, cur, rfl, hh, by omega, h2, h1, by rw [Nat.mul_one] at h4; exact h4, hb⟩
theorem take_set (cur : Array Value) (n i : Nat) (l : List Int) (v : Int) (h : cur.toList.take n = nums .u8 l) : (cur.setIfInBounds i (.int .u8 v)).toList.take n = nums .u8 (l.set i v) := by
  rw [Array.toList_setIfInBounds, List.take_set, h]
  simp [nums, List.map_set]

set_option maxRecDepth 100000 in
set_option maxHeartbeats 2000000 in
theorem packetBytes (g x : Nat) (off len ty fl ver : Int) (cpl : Bool) (w : World) (h8 : 8 < off) (hoff : off ≤ 65535)
    (c0 : w.cell? ⟨g, 0, none⟩ = some (.int .u16 off)) (c1 : w.cell? ⟨g, 1, none⟩ = some (.int .u32 len)) (c2 : w.cell? ⟨g, 2, none⟩ = some (.int .u8 ty)) (c3 : w.cell? ⟨g, 3, none⟩ = some (.int .u8 fl)) (c4 : w.cell? ⟨g, 4, none⟩ = some (.pointer (some ⟨x, 0, none⟩)))
    (x9 : w.cell? ⟨x, 9, none⟩ = some (.bool cpl)) (x2 : w.cell? ⟨x, 2, none⟩ = some (.int .u16 ver)) (hl0 : 0 ≤ len) (hl1 : len ≤ 4294967295) :
    Calls Tryd.prog 50 #[.pointer (some ⟨g, 0, none⟩)] w (RetWhole off.toNat (headZ (longOf cpl ver) len ty fl (List.replicate off.toNat 0)) w) := by
  have hg := World.block_lt_of_cell? w _ c0
  have hx := World.block_lt_of_cell? w _ x9
  simp only at hg hx
  have CS : Hid (∀ W, Below w.heap.size w W → W.cell? ⟨g, 0, none⟩ = some (.int .u16 off) ∧ W.cell? ⟨g, 1, none⟩ = some (.int .u32 len) ∧ W.cell? ⟨g, 2, none⟩ = some (.int .u8 ty) ∧ W.cell? ⟨g, 3, none⟩ = some (.int .u8 fl) ∧ W.cell? ⟨g, 4, none⟩ = some (.pointer (some ⟨x, 0, none⟩)) ∧ W.cell? ⟨x, 9, none⟩ = some (.bool cpl) ∧ W.cell? ⟨x, 2, none⟩ = some (.int .u16 ver)) :=
    Lib.hid fun W hW => ⟨bl_cell hW c0, bl_cell hW c1, bl_cell hW c2, bl_cell hW c3, bl_cell hW c4, bl_cell hW x9, bl_cell hW x2⟩
  clear c0 c1 c2 c3 c4 x9 x2
  obtain ⟨on, rfl⟩ := Int.eq_ofNat_of_zero_le (show 0 ≤ off by omega)
  rw [Int.toNat_natCast]
  have h8' : decide ((8 : Int) < (on : Int)) = true := by simp; omega
  have hE : (List.replicate (8 : Int).toNat (0 : Int) ++ List.replicate ((on : Int) - 8).toNat 0) = List.replicate on 0 := by rw [List.replicate_append_replicate]; congr 1; omega
  have HE := Lib.hid hE
  clear hE
  rcases (show (longOf cpl ver = true ∧ cpl = true ∧ 315 ≤ ver) ∨ (longOf cpl ver = false ∧ cpl = false) ∨ (longOf cpl ver = false ∧ cpl = true ∧ ¬ 315 ≤ ver) by
      cases cpl
      · exact .inr (.inl ⟨rfl, rfl⟩)
      · by_cases hv3 : 315 ≤ ver
        · exact .inl ⟨by simp [longOf, hv3], rfl, hv3⟩
        · exact .inr (.inr ⟨by simp [longOf, hv3], rfl, hv3⟩)) with ⟨hL, rfl, h315⟩ | ⟨hL, rfl⟩ | ⟨hL, rfl, h315⟩
  all_goals
    rw [hL]
    clear hL
    go_enter Tryd.func50, Tryd.ntmps50
    go_wp2_with (first | (refine Kd.R_make (Kd.int .u8) _ 5 rfl (N := 4) rfl 24 _ _ rfl 8 rfl rfl Tryd.underlying24 (.int .u8 0) 1 info5x rfl (by decide) (by omega) 0 (ok := fun _ => True) (okp := fun _ => True) rfl (fun _ hk => hk) trivial (by omega) (by omega) (Below.refl _ _) (Nat.le_refl _) ?_; intro v1 w1 hR1 hB1 hg_ hnew_; clear hg_ hnew_; obtain ⟨a0, a1, a2, a3, a4, a5, a6⟩ := CS.out w1 hB1; have HR1 := Aside0.mk hR1; have HB1 := Aside0.mk hB1; clear hR1 hB1) | (at_builtin; refine Kd.R_append_zeros (Kd.int .u8) (w0 := w) w.heap.size rfl (.tmp 10) (.tmp 15) 24 22 5 (.int .u8 0) 1 rfl Tryd.underlying24 Tryd.underlying22 info5x rfl (by decide) (by decide) v1 _ 0 ((on : Int) - 8) (fun _ => True) rfl rfl rfl (fun _ _ => trivial) HR1.out (by omega) HB1.out HB1.out.size (by simp; omega) ?_; intro v2 w2 hR2 hB2 hgr hat; clear a0 a1 a2 a3 a4 a5 a6; rw [HE.out] at hR2; obtain ⟨r, cap, cur, rfl, hb, hs, hm, hle, htk, hbase⟩ := row_open hR2 (by simp; omega); rw [List.length_replicate] at hle htk ⊢; obtain ⟨a0, a1, a2, a3, a4, a5, a6⟩ := CS.out w2 hB2; have Hb := Aside0.mk hb; have HT := Aside0.mk htk; have HS := Aside0.mk hs; have HB2 := Aside0.mk hB2; clear hR2 hB2 hgr hat HR1 HB1 hb htk hs))
    have hrs := xb_lt Hb.out
    have hPut16 : Hid (∀ v : Int, 0 ≤ v → v ≤ 65535 → Calls Tryd.prog 51 #[.agg #[], .slice (some ⟨r, 0, none⟩) on cap, .int .u16 v] w2.drew (RetPut r 5 ((cur.setIfInBounds 0 (.int .u8 (v / 256))).setIfInBounds (0 + 1) (.int .u8 (v % 256))) w2.drew)) := Lib.hid fun v h0 h1 => put16 r 0 on cap v 5 cur w2.drew Hb.out (by omega) (by have := HS.out; omega) h0 h1
    have hPut32 : Hid (∀ v : Int, 0 ≤ v → v ≤ 4294967295 → Calls Tryd.prog 55 #[.agg #[], .slice (some ⟨r, 0, none⟩) on cap, .int .u32 v] w2.drew (RetPut r 5 ((((cur.setIfInBounds 0 (.int .u8 (v / 16777216))).setIfInBounds (0 + 1) (.int .u8 (v / 65536 % 256))).setIfInBounds (0 + 2) (.int .u8 (v / 256 % 256))).setIfInBounds (0 + 3) (.int .u8 (v % 256))) w2.drew)) := Lib.hid fun v h0 h1 => put32 r 0 on cap v 5 cur w2.drew Hb.out (by omega) (by have := HS.out; omega) h0 h1
    have hw16 : IntKind.u16.wrap len = len % 65536 := IntKind.wrap_u16 len
    go_region_held3 (fun w' => w'.cell? ⟨g, 1, none⟩ = some (.int .u32 len)) (first | exact a1 | exact q1) (first | (go_at_call 55; refine (hPut32.out _ (by omega) (by omega)).mono ?_; rintro e w3 ⟨rfl, hb3, hg3⟩; have hB3 := grown_below (bl_trans HB2.out (bl_drewN w2 1)) hg3 (by exact HB2.out.size) hbase; obtain ⟨q0, q1, q2, q3, q4, q5, q6⟩ := CS.out w3 hB3; have HB3 := Aside0.mk hB3; have Hb3 := Aside0.mk hb3; clear hB3 hb3 hg3) | (go_at_call 51; refine (hPut16.out _ (by omega) (by omega)).mono ?_; rintro e w3 ⟨rfl, hb3, hg3⟩; have hB3 := grown_below (bl_trans HB2.out (bl_drewN w2 1)) hg3 (by exact HB2.out.size) hbase; obtain ⟨q0, q1, q2, q3, q4, q5, q6⟩ := CS.out w3 hB3; have HB3 := Aside0.mk hB3; have Hb3 := Aside0.mk hb3; clear hB3 hb3 hg3))
    obtain ⟨y4, e4⟩ : ∃ y, w3.cell? ⟨r, 4, none⟩ = some y := ⟨_, (xb_cell Hb3.out 4).trans (Array.getElem?_eq_getElem (by simp only [Array.size_setIfInBounds]; have := HS.out; omega))⟩
    obtain ⟨y5, e5⟩ : ∃ y, w3.cell? ⟨r, 5, none⟩ = some y := ⟨_, (xb_cell Hb3.out 5).trans (Array.getElem?_eq_getElem (by simp only [Array.size_setIfInBounds]; have := HS.out; omega))⟩
    have f4 := blk_free Hb3.out 4
    have f5 := blk_free Hb3.out 5
    have s4 : (4 : Int) < (on : Int) := by omega
    have s5 : (5 : Int) < (on : Int) := by omega
    have hgr : ¬ g = r := by omega
    have q3' : ∀ u, (w3.setCell ⟨r, 4, none⟩ u).cell? ⟨g, 3, none⟩ = some (.int .u8 fl) := fun u => (set_far hgr).trans q3
    clear hPut16 hPut32 HE
    go_wp2
    go_ret
    refine ⟨r, cap, _, rfl, xb_set (xb_set Hb3.out 4 _) 5 _, by simp only [Array.size_setIfInBounds]; exact HS.out, hm, hle, ?_, hbase, (HB3.out.setCell hbase _).setCell hbase _⟩
    unfold headZ
    simp only [Bool.false_eq_true, if_false, if_true]
    first
      | exact take_set _ _ _ _ _ (take_set _ _ _ _ _ (take_set _ _ _ _ _ (take_set _ _ _ _ _ (take_set _ _ _ _ _ (take_set _ _ _ _ _ HT.out)))))
      | exact take_set _ _ _ _ _ (take_set _ _ _ _ _ (take_set _ _ _ _ _ (take_set _ _ _ _ _ HT.out)))
end Go.Proofs.YtpacjdlgnoiheaaDoor.X
