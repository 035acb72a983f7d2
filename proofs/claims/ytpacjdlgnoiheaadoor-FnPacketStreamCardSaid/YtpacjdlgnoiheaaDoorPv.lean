/- spec.packetLong, packetLength, PacketMarker. -/
import Derived.Test.YtpacjdlgnoiheaaDoorPq
import Derived.Test.YtpacjdlgnoiheaaDoorPm
namespace Go.Proofs.YtpacjdlgnoiheaaDoor.X
open Go Go.RowKit Go.Proofs.YtpacjdlgnoiheaaDoorW.PrintWords Go.Proofs.YtpacjdlgnoiheaaDoorW.PrintLast Go.Proofs.YtpacjdlgnoiheaaDoorW.PrintMore
attribute [local go_sem] setCell_drewN alloc_drewN
set_option linter.unusedVariables false
abbrev ctxW (a0 a1 a2 a3 a4 a5 a6 a7 a8 : Int) (a9 : Bool) : Value := .agg #[.int .u16 a0, .int .u16 a1, .int .u16 a2, .int .u16 a3, .int .u16 a4, .int .u8 a5, .int .u8 a6, .int .u32 a7, .int .u32 a8, .bool a9]
set_option maxHeartbeats 400000 in
theorem packetLong' (a0 a1 a2 a3 a4 a5 a6 a7 a8 : Int) (a9 : Bool) (w : World) : Calls Tryd.prog 29 #[ctxW a0 a1 a2 a3 a4 a5 a6 a7 a8 a9] w (Ret (.bool (longOf a9 a0)) w) := by
  rcases (show (longOf a9 a0 = true ∧ a9 = true ∧ 315 ≤ a0) ∨ (longOf a9 a0 = false ∧ a9 = false) ∨ (longOf a9 a0 = false ∧ a9 = true ∧ ¬ 315 ≤ a0) by
      cases a9
      · exact .inr (.inl ⟨rfl, rfl⟩)
      · by_cases hv3 : 315 ≤ a0
        · exact .inl ⟨by simp [longOf, hv3], rfl, hv3⟩
        · exact .inr (.inr ⟨by simp [longOf, hv3], rfl, hv3⟩)) with ⟨hL, rfl, h315⟩ | ⟨hL, rfl⟩ | ⟨hL, rfl, h315⟩
  all_goals
    rw [hL]
    clear hL
    go_enter Tryd.func29, Tryd.ntmps29
    go_wp2
    go_ret
    exact ⟨rfl, (Below.refl _ _).alloc (Nat.le_refl _) _⟩
def lenPut (long : Bool) (l : List Int) (x : Int) : List Int :=
  if long then (((l.set 0 (x / 16777216)).set (0 + 1) (x / 65536 % 256)).set (0 + 2) (x / 256 % 256)).set (0 + 3) (x % 256) else (l.set 0 (x / 256)).set (0 + 1) (x % 256)
set_option maxHeartbeats 400000 in
theorem packetLength' (a0 a1 a2 a3 a4 a5 a6 a7 a8 : Int) (a9 : Bool) (w0 w : World) (v : Value) (l : List Int) (x : Int) (hB : Below w0.heap.size w0 w) (hR : Kd.R (Kd.int .u8) 5 w w0.heap.size (fun _ => True) v l) (hl : 4 ≤ l.length) (hm : l.length ≤ 140737488355328) (h0 : 0 ≤ x) (h1 : x ≤ 65535) :
    Calls Tryd.prog 35 #[ctxW a0 a1 a2 a3 a4 a5 a6 a7 a8 a9, v, .int .u64 x] w (RetOwn w0.heap.size w0 v (lenPut (longOf a9 a0) l x)) := by
  have hL : Hid (∀ W, Calls Tryd.prog 29 #[ctxW a0 a1 a2 a3 a4 a5 a6 a7 a8 a9] W (Ret (.bool (longOf a9 a0)) W)) := Lib.hid fun W => packetLong' a0 a1 a2 a3 a4 a5 a6 a7 a8 a9 W
  have hP : Hid (∀ W, Below w.heap.size w W → Calls Tryd.prog 24 #[v, .int .i64 0, .int .i64 (if longOf a9 a0 then 4 else 2), .int .u64 x] W (RetOwn w0.heap.size w0 v (lenPut (longOf a9 a0) l x))) := Lib.hid fun W hW => by
    have hB' : Below w0.heap.size w0 W := bl_trans hB hW
    have hR' := Kd.R_below hR hW
    cases longOf a9 a0
    · exact put2_calls w0 W v l 0 x hB' hR' (by omega) hm h0 h1
    · exact put4_calls w0 W v l 0 x hB' hR' (by omega) hm h0 (by omega)
  obtain ⟨A, c, rfl, hle, hC⟩ := Kd.R_reads hR
  generalize lenPut (longOf a9 a0) l x = l' at *
  generalize longOf a9 a0 = long at *
  clear hB hR hC
  cases long
  all_goals
    go_enter Tryd.func35, Tryd.ntmps35
    go_wp2_with fail
    refine (hL.out _).mono ?_
    rintro e w2 ⟨rfl, hB2⟩
    have HB2 := Lib.hid (bl_trans ((Below.refl w.heap.size w).alloc (Nat.le_refl _) _) hB2)
    clear hB2
    go_wp2_with fail
    refine (hP.out _ HB2.out).mono ?_
    rintro e w3 ⟨rfl, hR3, hB3⟩
    have HR3 := Lib.hid hR3
    have HB3 := Lib.hid hB3
    clear hR3 hB3
    go_wp2
    first | go_end0 | ((try simp only [Exit.inBlock, Exit.then]); refine bodyPost_ret (results_none rfl _ _ _) rfl ?_)
    exact ⟨rfl, HR3.out, HB3.out⟩
theorem ctx_cells {w : World} {g : Nat} {a0 a1 a2 a3 a4 a5 a6 a7 a8 : Int} {a9 : Bool} (h : w.heap[g]? = some (.cells #[.int .u16 a0, .int .u16 a1, .int .u16 a2, .int .u16 a3, .int .u16 a4, .int .u8 a5, .int .u8 a6, .int .u32 a7, .int .u32 a8, .bool a9] 34 (0, 0))) :
    w.cell? ⟨g, 0, none⟩ = some (Value.int .u16 a0) ∧ w.cell? ⟨g, 1, none⟩ = some (Value.int .u16 a1) ∧ w.cell? ⟨g, 2, none⟩ = some (Value.int .u16 a2) ∧ w.cell? ⟨g, 3, none⟩ = some (Value.int .u16 a3) ∧ w.cell? ⟨g, 4, none⟩ = some (Value.int .u16 a4) ∧ w.cell? ⟨g, 5, none⟩ = some (Value.int .u8 a5) ∧ w.cell? ⟨g, 6, none⟩ = some (Value.int .u8 a6) ∧ w.cell? ⟨g, 7, none⟩ = some (Value.int .u32 a7) ∧ w.cell? ⟨g, 8, none⟩ = some (Value.int .u32 a8) ∧ w.cell? ⟨g, 9, none⟩ = some (Value.bool a9) :=
  ⟨xb_cell h 0, xb_cell h 1, xb_cell h 2, xb_cell h 3, xb_cell h 4, xb_cell h 5, xb_cell h 6, xb_cell h 7, xb_cell h 8, xb_cell h 9⟩
theorem lenPut_length (long : Bool) (l : List Int) (x : Int) : (lenPut long l x).length = l.length := by cases long <;> simp [lenPut]
set_option maxRecDepth 100000 in
set_option maxHeartbeats 2000000 in
theorem specMarker (a0 a1 a2 a3 a4 a5 a6 a7 a8 : Int) (a9 : Bool) (k : Int) (w : World) : Calls Tryd.prog 23 #[ctxW a0 a1 a2 a3 a4 a5 a6 a7 a8 a9, .int .u8 k] w (RetRow (markList (longOf a9 a0) k) w) := by
  have hE : Hid (markList (longOf a9 a0) k = (((lenPut (longOf a9 a0) (List.replicate 11 0) 11).set 4 12).set 8 1).set 10 k) := Lib.hid (by cases longOf a9 a0 <;> rfl)
  have hPL : Hid (∀ W v, Below w.heap.size w W → Kd.R (Kd.int .u8) 5 W w.heap.size (fun _ => True) v (List.replicate 11 0) → Calls Tryd.prog 35 #[ctxW a0 a1 a2 a3 a4 a5 a6 a7 a8 a9, v, .int .u64 11] W (RetOwn w.heap.size w v (lenPut (longOf a9 a0) (List.replicate 11 0) 11))) := Lib.hid fun W v hB hR => packetLength' a0 a1 a2 a3 a4 a5 a6 a7 a8 a9 w W v _ 11 hB hR (by decide) (by decide) (by decide) (by decide)
  have hLn : Hid ((lenPut (longOf a9 a0) (List.replicate 11 0) 11).length = 11) := Lib.hid (by rw [lenPut_length]; rfl)
  generalize markList (longOf a9 a0) k = L at *
  generalize lenPut (longOf a9 a0) (List.replicate 11 0) 11 = l2 at *
  go_enter Tryd.func23, Tryd.ntmps23
  go_wp2_with (first | (refine Kd.R_make (Kd.int .u8) _ 5 rfl (N := 6) rfl 24 _ _ rfl 11 rfl rfl Tryd.underlying24 (.int .u8 0) 1 info5x rfl (by decide) (by omega) 0 (ok := fun _ => True) (okp := fun _ => True) rfl (fun _ hk => hk) trivial (by omega) (by omega) (Below.refl _ _) (Nat.le_refl _) ?_; intro v1 w1 hR1 hB1 hg_ hnew_; clear hg_ hnew_; have hbc := blk_bl (xb_new w _) hB1 (by simp); obtain ⟨k0, k1, k2, k3, k4, k5, k6, k7, k8, k9⟩ := ctx_cells hbc; clear hbc; replace hB1 := bl_trans ((Below.refl w.heap.size w).alloc (Nat.le_refl _) _) hB1; replace hR1 := Kd.R_lower hR1 (base' := w.heap.size) (by simp); obtain ⟨g, cap, cur, hv, hb, hs, hm1, hn, ht, hr⟩ := row_open hR1 (by decide); replace hv : v1 = .slice (some ⟨g, 0, none⟩) 11 cap := hv; subst hv; replace hR1 : Kd.R (Kd.int .u8) 5 w1 w.heap.size (fun _ => True) (.slice (some ⟨g, 0, none⟩) 11 cap) (List.replicate 11 0) := hR1; replace hn : 11 ≤ cap := hn; have HR1 := Aside0.mk hR1; have HB1 := Aside0.mk hB1; clear hR1 hB1 hb hs ht))
  refine (hPL.out _ _ HB1.out HR1.out).mono ?_
  rintro e w2 ⟨rfl, hR2, hB2⟩
  obtain ⟨g', cap', cur, hv, hb, hs, hm2, hn2, ht, hr2⟩ := row_open hR2 (by rw [hLn.out]; decide)
  rw [hLn.out] at hv ht
  injection hv with ea eb ec
  injection ea with ea
  injection ea with ea
  subst ea
  subst ec
  have hcs : 11 ≤ cur.size := by omega
  obtain ⟨x4, hx4⟩ : ∃ x, cur[4]? = some x := ⟨_, Array.getElem?_eq_getElem (by omega)⟩
  obtain ⟨x8, hx8⟩ : ∃ x, cur[8]? = some x := ⟨_, Array.getElem?_eq_getElem (by omega)⟩
  obtain ⟨x10, hx10⟩ : ∃ x, cur[10]? = some x := ⟨_, Array.getElem?_eq_getElem (by omega)⟩
  have d4 := (xb_cell hb 4).trans hx4
  have d8 := (xb_cell hb 8).trans hx8
  have d10 := (xb_cell hb 10).trans hx10
  have f4 := blk_free hb 4
  have f8 := blk_free hb 8
  have f10 := blk_free hb 10
  have HR3 : Hid (Kd.R (Kd.int .u8) 5 (((w2.setCell ⟨g, 4, none⟩ (.int .u8 12)).setCell ⟨g, 8, none⟩ (.int .u8 1)).setCell ⟨g, 10, none⟩ (.int .u8 k)) w.heap.size (fun _ => True) (.slice (some ⟨g, 0, none⟩) 11 cap) (((l2.set 4 12).set 8 1).set 10 k)) :=
    Lib.hid (whole_row' (by simp only [List.length_set]; exact hLn.out) (xb_set (xb_set (xb_set hb 4 _) 8 _) 10 _) (by simp only [Array.size_setIfInBounds]; exact hs) hm1 hn (take_set _ _ _ _ _ (take_set _ _ _ _ _ (take_set _ _ _ _ _ ht))) hr)
  have HB3 : Hid (Below w.heap.size w (((w2.setCell ⟨g, 4, none⟩ (.int .u8 12)).setCell ⟨g, 8, none⟩ (.int .u8 1)).setCell ⟨g, 10, none⟩ (.int .u8 k))) := Lib.hid (((hB2.setCell hr _).setCell hr _).setCell hr _)
  clear hb hs ht hx4 hx8 hx10 hR2 hB2 hPL hr2 hm2 hn2 HR1 HB1 k0 k1 k2 k3 k4 k5 k6 k7 k8 k9
  go_wp2
  go_ret
  exact ⟨_, rfl, by rw [hE.out]; exact HR3.out, HB3.out⟩
def spec_PacketMarker.f (a0 a1 a2 a3 a4 a5 a6 a7 a8 : Int) (a9 : Bool) (k : Int) : Option (List Int) := some (markList (longOf a9 a0) k)
theorem spec_PacketMarker.calls (a0 a1 a2 a3 a4 a5 a6 a7 a8 : Int) (a9 : Bool) (k : Int) (r : List Int) (w : World) (h : spec_PacketMarker.f a0 a1 a2 a3 a4 a5 a6 a7 a8 a9 k = some r) :
    Calls Tryd.prog 23 #[.agg #[.int .u16 a0, .int .u16 a1, .int .u16 a2, .int .u16 a3, .int .u16 a4, .int .u8 a5, .int .u8 a6, .int .u32 a7, .int .u32 a8, .bool a9], .int .u8 k] w fun e w' => ∃ v0_ : Value, e = .returned (v0_) ∧ Kd.R (Kd.int .u8) 5 w' w.heap.size (fun _ => True) v0_ r ∧ Below w.heap.size w w' := by
  obtain rfl := Option.some.inj h
  exact specMarker a0 a1 a2 a3 a4 a5 a6 a7 a8 a9 k w
end Go.Proofs.YtpacjdlgnoiheaaDoor.X
