/- impl.DataRead. -/
import Derived.Test.YtpacjdlgnoiheaaDoorPd
namespace Go.Proofs.YtpacjdlgnoiheaaDoor.X
open Go.RowKit Go.Proofs.YtpacjdlgnoiheaaDoorW.PrintWords Go.Proofs.YtpacjdlgnoiheaaDoorW.PrintMore
attribute [local go_sem] setCell_drewN alloc_drewN
set_option linter.unusedVariables false
def RetNet (len ty fl : Int) (ctx : Value) (df : Int) (n : Nat) (l : List Int) (w : World) (e : Ending) (w' : World) : Prop :=
  ∃ g A c, e = .returned (.tuple #[.pointer (some ⟨g, 0, none⟩), .int .u16 df, .slice A n c, .nilIface]) ∧ w'.heap[g]? = some (.cells #[.int .u16 10, .int .u32 len, .int .u8 ty, .int .u8 fl, ctx, .int .u16 df, .slice A n c] 72 (0, 0)) ∧ Kd.C (Kd.int .u8) w' A n l ∧ n ≤ c ∧ w.heap.size ≤ g ∧ Below w.heap.size w w'
def RetNetErr (w : World) (e : Ending) (w' : World) : Prop := ∃ g, e = .returned (.tuple #[.pointer none, .int .u16 0, .slice none 0 0, .iface 111 (.pointer (some ⟨g, 0, none⟩))]) ∧ Below w.heap.size w w'
set_option maxHeartbeats 400000 in
theorem netDataErr (v : Value) (x : Nat) (w : World) (H : Hid (Calls Tryd.prog 38 #[v, .pointer (some ⟨x, 0, none⟩)] w (RetDErr w))) : Calls Tryd.prog 27 #[.pointer (some ⟨x, 0, none⟩), v] w (RetNetErr w) := by
  go_enter Tryd.func27, Tryd.ntmps27
  go_wp2_with fail
  refine H.out.mono ?_
  rintro e w1 ⟨g, rfl, hB⟩
  go_wp2
  refine bodyPost_ret (results_list (rs := [.tmp 4, .tmp 5, .tmp 6, .tmp 7]) rfl (by simp) (.tmp (.tmp (.tmp (.tmp .nil))))) rfl ?_
  exact ⟨_, rfl, hB⟩
set_option maxHeartbeats 400000 in
theorem netData (v : Value) (x : Nat) (len ty fl : Int) (df : Int) (n : Nat) (l : List Int) (w : World) (H : Hid (Calls Tryd.prog 38 #[v, .pointer (some ⟨x, 0, none⟩)] w (RetData len ty fl (.pointer (some ⟨x, 0, none⟩)) df n l w))) : Calls Tryd.prog 27 #[.pointer (some ⟨x, 0, none⟩), v] w (RetNet len ty fl (.pointer (some ⟨x, 0, none⟩)) df n l w) := by
  go_enter Tryd.func27, Tryd.ntmps27
  go_wp2_with fail
  refine H.out.mono ?_
  rintro e w1 ⟨g, A, c, rfl, hb, hC, hn, hg, hB⟩
  have d5 : w1.cell? ⟨g, 5, none⟩ = some (.int .u16 df) := xb_cell hb 5
  have d6 : w1.cell? ⟨g, 6, none⟩ = some (.slice A n c) := xb_cell hb 6
  have HB := Lib.hid hb
  have HBw := Lib.hid hB
  have HC := Lib.hid hC
  clear hb H hB hC
  go_wp2
  go_quiet (fail)
  go_wp2
  refine bodyPost_ret (results_list (rs := [.tmp 4, .tmp 5, .tmp 6, .tmp 7]) rfl (by simp) (.tmp (.tmp (.tmp (.tmp .nil))))) rfl ?_
  exact ⟨g, A, c, rfl, HB.out, HC.out, hn, hg, bl_trans HBw.out (bl_drewN _ _)⟩

def impl_DataRead.f (a0 a1 a2 a3 a4 a5 a6 a7 a8 : Int) (a9 : Bool) (l : List Int) : Option (Int × Int × Int × Int × Int × List Int × Bool) :=
  if Byt l ∧ l.length < 140737488355328 then
    if 10 ≤ l.length ∧ l.getD 4 0 = 6 then some (lenOf (longOf a9 a0) l, 6, l.getD 5 0, 10, l.getD 8 0 * 256 + l.getD 9 0, l.drop 10, true)
    else some (0, 0, 0, 0, 0, [], false)
  else none
set_option maxHeartbeats 1000000 in
theorem implDataNone (A : Option Addr) (c : Nat) (l : List Int) (a0 a1 a2 a3 a4 a5 a6 a7 a8 : Int) (a9 : Bool) (w : World) (hr : Kd.C (Kd.int .u8) w A l.length l) (hc : l.length ≤ c) (hb : Byt l) (hl : l.length < 140737488355328) (hno : ¬ (10 ≤ l.length ∧ l.getD 4 0 = 6)) :
    Calls Tryd.prog 13 #[.agg #[.int .u16 a0, .int .u16 a1, .int .u16 a2, .int .u16 a3, .int .u16 a4, .int .u8 a5, .int .u8 a6, .int .u32 a7, .int .u32 a8, .bool a9], .slice A l.length c] w (Ret (.tuple #[.agg #[.int .u32 0, .int .u8 0, .int .u8 0, .int .u16 0], .int .u16 0, .slice none 0 0, .bool false]) w) := by
  have CL : Hid (∀ W, Below w.heap.size w W → Calls Tryd.prog 12 #[.slice A l.length c] W (RetRow l W)) := Lib.hid fun W hW => bytes_Clone.calls A c l l W (Kd.C_below hr hW) hc (by unfold bytes_Clone.f; rw [if_pos hl])
  have NR : Hid (∀ (W : World) B v x, Kd.R (Kd.int .u8) 5 W B (fun _ => True) v l → W.cell? ⟨x, 9, none⟩ = some (.bool a9) → W.cell? ⟨x, 2, none⟩ = some (.int .u16 a0) → Calls Tryd.prog 27 #[.pointer (some ⟨x, 0, none⟩), v] W (RetNetErr W)) := Lib.hid fun W B v x hv x9 x2 => by
    obtain ⟨A', c', rfl, hc', hC⟩ := Kd.R_reads hv
    refine netDataErr _ _ _ (Lib.hid ?_)
    by_cases h10 : 10 ≤ l.length
    · exact dataOther A' c' l _ W hC h10 (fun h => hno ⟨h10, h⟩)
    · exact dataShort _ _ _ _ _ (by omega)
  clear hr hno
  go_enter Tryd.func13, Tryd.ntmps13
  go_wp2_with fail
  refine (contextOf a0 a1 a2 a3 a4 a5 a6 a7 a8 a9 _).mono ?_
  rintro e w1 ⟨x, rfl, hx, hxs, hB⟩
  have hs1 : w.heap.size + 2 ≤ w1.heap.size := by have := hB.size; simp only [World.size_alloc] at this; omega
  have b1 := blk_bl (heap_alloc2_new w (.cells #[.int .u16 a0, .int .u16 a1, .int .u16 a2, .int .u16 a3, .int .u16 a4, .int .u8 a5, .int .u8 a6, .int .u32 a7, .int .u32 a8, .bool a9] 34) (.cells #[.int .u32 0, .int .u8 0, .int .u8 0, .int .u16 0] 28)) hB (by simp)
  have hB1 : Below w.heap.size w w1 := bl_trans (((Below.refl _ _).alloc (Nat.le_refl _) _).alloc (by simp) _) hB
  have HX := Lib.hid hx
  have Hb1 := Lib.hid b1
  have HB1 := Lib.hid hB1
  clear hx b1 hB1 hB hxs
  go_wp2_with fail
  refine (CL.out _ HB1.out).mono ?_
  rintro e w2 ⟨v, rfl, hR, hB⟩
  have b2 := blk_bl Hb1.out hB (by omega)
  have x2 := blk_bl HX.out hB (xb_lt HX.out)
  have hs2 : w.heap.size + 2 ≤ w2.heap.size := Nat.le_trans hs1 hB.size
  have HX2 := Lib.hid x2
  have Hb2 := Lib.hid b2
  have HB2 := Lib.hid (bl_trans HB1.out hB)
  have HR := Lib.hid hR
  clear x2 b2 hR hB HX Hb1 HB1 CL hs1
  go_wp2_with fail
  refine (NR.out _ _ _ _ HR.out (xb_cell HX2.out 9) (xb_cell HX2.out 2)).mono ?_
  rintro e w3 ⟨ge, rfl, hB⟩
  have b3 := blk_bl Hb2.out hB (by omega)
  have d0 := xb_cell b3 0
  have d1 := xb_cell b3 1
  have d2 := xb_cell b3 2
  have d3 := xb_cell b3 3
  have f0 := blk_free b3 0
  have f1 := blk_free b3 1
  have f2 := blk_free b3 2
  have f3 := blk_free b3 3
  have Hb3 := Lib.hid b3
  have HB3 := Lib.hid (bl_trans HB2.out hB)
  have hs3 : w.heap.size + 2 ≤ w3.heap.size := Nat.le_trans hs2 hB.size
  clear b3 hB NR HR HX2 Hb2 HB2 hs2
  go_wp2
  refine bodyPost_ret (results_list (rs := [.cell 4 28, .tmp 5, .tmp 6, .tmp 7]) rfl (by simp) (.cell (w.heap.size + 1) 28 #[.int .u32 0, .int .u8 0, .int .u8 0, .int .u16 0] (0, 0) _ rfl (xb_set (xb_set (xb_set (xb_set Hb3.out 0 _) 1 _) 2 _) 3 _) Tryd.underlying28 rfl (by kernel_rfl) (.tmp (.tmp (.tmp .nil))))) rfl ?_
  exact ⟨rfl, ((((HB3.out.setCell (by simp) _).setCell (by simp) _).setCell (by simp) _).setCell (by simp) _)⟩
/-- The answer of a reader of data: its row of bytes is a new one. -/
def RetDR (len ty fl off df : Int) (l : List Int) (w : World) (e : Ending) (w' : World) : Prop := ∃ v : Value, e = .returned (.tuple #[.agg #[.int .u32 len, .int .u8 ty, .int .u8 fl, .int .u16 off], .int .u16 df, v, .bool true]) ∧ Kd.R (Kd.int .u8) 5 w' w.heap.size (fun _ => True) v l ∧ Below w.heap.size w w'
set_option maxHeartbeats 1000000 in
theorem implData (A : Option Addr) (c : Nat) (l : List Int) (a0 a1 a2 a3 a4 a5 a6 a7 a8 : Int) (a9 : Bool) (w : World) (hr : Kd.C (Kd.int .u8) w A l.length l) (hc : l.length ≤ c) (hb : Byt l) (hl : l.length < 140737488355328) (h10 : 10 ≤ l.length) (h6 : l.getD 4 0 = 6) :
    Calls Tryd.prog 13 #[.agg #[.int .u16 a0, .int .u16 a1, .int .u16 a2, .int .u16 a3, .int .u16 a4, .int .u8 a5, .int .u8 a6, .int .u32 a7, .int .u32 a8, .bool a9], .slice A l.length c] w (RetDR (lenOf (longOf a9 a0) l) 6 (l.getD 5 0) 10 (l.getD 8 0 * 256 + l.getD 9 0) (l.drop 10) w) := by
  have CL : Hid (∀ W, Below w.heap.size w W → Calls Tryd.prog 12 #[.slice A l.length c] W (RetRow l W)) := Lib.hid fun W hW => bytes_Clone.calls A c l l W (Kd.C_below hr hW) hc (by unfold bytes_Clone.f; rw [if_pos hl])
  have NR : Hid (∀ (W : World) B v x, Kd.R (Kd.int .u8) 5 W B (fun _ => True) v l → W.cell? ⟨x, 9, none⟩ = some (.bool a9) → W.cell? ⟨x, 2, none⟩ = some (.int .u16 a0) → Calls Tryd.prog 27 #[.pointer (some ⟨x, 0, none⟩), v] W (RetNet (lenOf (longOf a9 a0) l) 6 (l.getD 5 0) (.pointer (some ⟨x, 0, none⟩)) (l.getD 8 0 * 256 + l.getD 9 0) (l.drop 10).length (l.drop 10) W)) := Lib.hid fun W B v x hv x9 x2 => by
    obtain ⟨A', c', rfl, hc', hC⟩ := Kd.R_reads hv
    have h := dataOk A' c' l x a9 a0 W hC hc' h10 hb h6 x9 x2
    rw [← List.length_drop] at h
    exact netData _ _ _ _ _ _ _ _ _ (Lib.hid h)
  have hlb : (l.drop 10).length < 140737488355328 := by rw [List.length_drop]; omega
  generalize lenOf (longOf a9 a0) l = len at *
  generalize l.getD 5 0 = y5 at *
  generalize l.getD 8 0 * 256 + l.getD 9 0 = df at *
  generalize l.drop 10 = lb at *
  have CB : Hid (∀ W A' c', Kd.C (Kd.int .u8) W A' lb.length lb → lb.length ≤ c' → Calls Tryd.prog 12 #[.slice A' lb.length c'] W (RetRow lb W)) := Lib.hid fun W A' c' hC hc' => bytes_Clone.calls A' c' lb lb W hC hc' (by unfold bytes_Clone.f; rw [if_pos hlb])
  clear hr h10 h6 hlb
  go_enter Tryd.func13, Tryd.ntmps13
  go_wp2_with fail
  refine (contextOf a0 a1 a2 a3 a4 a5 a6 a7 a8 a9 _).mono ?_
  rintro e w1 ⟨x, rfl, hx, hxs, hB⟩
  have hs1 : w.heap.size + 2 ≤ w1.heap.size := by have := hB.size; simp only [World.size_alloc] at this; omega
  have b1 := blk_bl (heap_alloc2_new w (.cells #[.int .u16 a0, .int .u16 a1, .int .u16 a2, .int .u16 a3, .int .u16 a4, .int .u8 a5, .int .u8 a6, .int .u32 a7, .int .u32 a8, .bool a9] 34) (.cells #[.int .u32 0, .int .u8 0, .int .u8 0, .int .u16 0] 28)) hB (by simp)
  have hB1 : Below w.heap.size w w1 := bl_trans (((Below.refl _ _).alloc (Nat.le_refl _) _).alloc (by simp) _) hB
  have HX := Lib.hid hx
  have Hb1 := Lib.hid b1
  have HB1 := Lib.hid hB1
  clear hx b1 hB1 hB hxs
  go_wp2_with fail
  refine (CL.out _ HB1.out).mono ?_
  rintro e w2 ⟨v, rfl, hR, hB⟩
  have b2 := blk_bl Hb1.out hB (by omega)
  have x2 := blk_bl HX.out hB (xb_lt HX.out)
  have hs2 : w.heap.size + 2 ≤ w2.heap.size := Nat.le_trans hs1 hB.size
  have HX2 := Lib.hid x2
  have Hb2 := Lib.hid b2
  have HB2 := Lib.hid (bl_trans HB1.out hB)
  have HR := Lib.hid hR
  clear x2 b2 hR hB HX Hb1 HB1 CL hs1
  go_wp2_with fail
  refine (NR.out _ _ _ _ HR.out (xb_cell HX2.out 9) (xb_cell HX2.out 2)).mono ?_
  rintro e w3 ⟨p, A', c', rfl, hp, hC3, hn3, hps, hB⟩
  have b3 := blk_bl Hb2.out hB (by omega)
  have hHO : Hid (Calls Tryd.prog 26 #[.pointer (some ⟨p, 0, none⟩)] w3 (Ret (.agg #[.int .u32 len, .int .u8 6, .int .u8 y5, .int .u16 10]) w3)) := Lib.hid (headOf p len 6 y5 10 _ (xb_cell hp 0) (xb_cell hp 1) (xb_cell hp 2) (xb_cell hp 3))
  have Hb3 := Lib.hid b3
  have HC3 := Lib.hid hC3
  have HB3 := Lib.hid (bl_trans HB2.out hB)
  have hs3 : w.heap.size + 2 ≤ w3.heap.size := Nat.le_trans hs2 hB.size
  clear b3 hB NR HR HX2 Hb2 HB2 hs2 hp hps hC3
  go_wp2_with fail
  refine hHO.out.mono ?_
  rintro e w4 ⟨rfl, hB⟩
  have b4 := blk_bl Hb3.out hB (by omega)
  have HC4 := Lib.hid (Kd.C_below HC3.out hB)
  have Hb4 := Lib.hid b4
  have HB4 := Lib.hid (bl_trans HB3.out hB)
  have hs4 : w.heap.size + 2 ≤ w4.heap.size := Nat.le_trans hs3 hB.size
  clear b4 hB Hb3 HB3 HC3 hHO
  go_wp2_with fail
  refine (CB.out _ _ _ HC4.out hn3).mono ?_
  rintro e w5 ⟨v2, rfl, hR2, hB⟩
  have b5 := blk_bl Hb4.out hB (by omega)
  have d0 := xb_cell b5 0
  have d1 := xb_cell b5 1
  have d2 := xb_cell b5 2
  have d3 := xb_cell b5 3
  have f0 := blk_free b5 0
  have f1 := blk_free b5 1
  have f2 := blk_free b5 2
  have f3 := blk_free b5 3
  have Hb5 := Lib.hid b5
  have HR5 := Lib.hid hR2
  have HB5 := Lib.hid (bl_trans HB4.out hB)
  have hT := World.block_lt_of_cell? w5 _ d0
  clear b5 hB HB4 HC4 CB hR2 Hb4
  go_wp2
  refine bodyPost_ret (results_list (rs := [.cell 4 28, .tmp 5, .tmp 6, .tmp 7]) rfl (by simp) (.cell (w.heap.size + 1) 28 #[.int .u32 len, .int .u8 6, .int .u8 y5, .int .u16 10] (0, 0) _ rfl (xb_set (xb_set (xb_set (xb_set Hb5.out 0 _) 1 _) 2 _) 3 _) Tryd.underlying28 rfl (by kernel_rfl) (.tmp (.tmp (.tmp .nil))))) rfl ?_
  have hne : ∀ k, (True ∧ k ≠ w.heap.size + 1) → k ≠ w.heap.size + 1 := fun k h => h.2
  refine ⟨v2, rfl, ?_, ((((HB5.out.setCell (by simp) _).setCell (by simp) _).setCell (by simp) _).setCell (by simp) _)⟩
  have r0 := Kd.R_lower HR5.out (base' := w.heap.size) (by omega)
  exact Kd.R_set (Kd.R_set (Kd.R_set (Kd.R_set r0 Hb5.out (by decide) 0 _) (xb_set Hb5.out 0 _) (by decide) 1 _) (xb_set (xb_set Hb5.out 0 _) 1 _) (by decide) 2 _) (xb_set (xb_set (xb_set Hb5.out 0 _) 1 _) 2 _) (by decide) 3 _
theorem impl_DataRead.calls (a0 a1 a2 a3 a4 a5 a6 a7 a8 : Int) (a9 : Bool) (A1 : Option Addr) (c1 : Nat) (l1 : List Int) (r1 r2 r3 r4 r5 : Int) (r6 : List Int) (r7 : Bool) (w : World) (hr1 : Kd.C (Kd.int .u8) w A1 l1.length l1) (hc1 : l1.length ≤ c1) (h : impl_DataRead.f a0 a1 a2 a3 a4 a5 a6 a7 a8 a9 l1 = some (r1, r2, r3, r4, r5, r6, r7)) :
    Calls Tryd.prog 13 #[.agg #[.int .u16 a0, .int .u16 a1, .int .u16 a2, .int .u16 a3, .int .u16 a4, .int .u8 a5, .int .u8 a6, .int .u32 a7, .int .u32 a8, .bool a9], .slice A1 l1.length c1] w fun e w' => ∃ v0_ : Value, e = .returned (.tuple #[.agg #[.int .u32 r1, .int .u8 r2, .int .u8 r3, .int .u16 r4], .int .u16 r5, v0_, .bool r7]) ∧ Kd.R (Kd.int .u8) 5 w' w.heap.size (fun _ => True) v0_ r6 ∧ Below w.heap.size w w' := by
  unfold impl_DataRead.f at h
  split at h
  · rename_i h1
    split at h
    · rename_i h2
      simp only [Option.some.injEq, Prod.mk.injEq] at h
      obtain ⟨rfl, rfl, rfl, rfl, rfl, rfl, rfl⟩ := h
      exact implData A1 c1 l1 a0 a1 a2 a3 a4 a5 a6 a7 a8 a9 w hr1 hc1 h1.1 h1.2 h2.1 h2.2
    · rename_i h2
      simp only [Option.some.injEq, Prod.mk.injEq] at h
      obtain ⟨rfl, rfl, rfl, rfl, rfl, rfl, rfl⟩ := h
      exact (implDataNone A1 c1 l1 a0 a1 a2 a3 a4 a5 a6 a7 a8 a9 w hr1 hc1 h1.1 h1.2 h2).mono fun e w' ⟨he, hB⟩ => ⟨_, he, Kd.R_nil _ _ _ _ _, hB⟩
  · cases h
end Go.Proofs.YtpacjdlgnoiheaaDoor.X
