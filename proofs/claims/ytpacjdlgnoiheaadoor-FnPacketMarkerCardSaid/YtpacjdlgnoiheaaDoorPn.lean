/- impl.MarkerRead. -/
import Derived.Test.YtpacjdlgnoiheaaDoorPm
namespace Go.Proofs.YtpacjdlgnoiheaaDoor.X
open Go.RowKit Go.Proofs.YtpacjdlgnoiheaaDoorW.PrintWords Go.Proofs.YtpacjdlgnoiheaaDoorW.PrintMore
attribute [local go_sem] setCell_drewN alloc_drewN
set_option linter.unusedVariables false
def RetMark (cs : Array Value) (k : Int) (w : World) (e : Ending) (w' : World) : Prop := ∃ g, e = .returned (.tuple #[.pointer (some ⟨g, 0, none⟩), .int .u8 k]) ∧ w'.heap[g]? = some (.cells cs 83 (0, 0)) ∧ w.heap.size ≤ g ∧ Below w.heap.size w w'
def RetNoMark (w : World) (e : Ending) (w' : World) : Prop := e = .returned (.tuple #[.pointer none, .int .u8 0]) ∧ Below w.heap.size w w'
set_option maxHeartbeats 400000 in
theorem netMarkNone (v : Value) (x : Nat) (w : World) (H : Hid (Calls Tryd.prog 46 #[v, .pointer (some ⟨x, 0, none⟩)] w (RetNilB w))) : Calls Tryd.prog 34 #[.pointer (some ⟨x, 0, none⟩), v] w (RetNoMark w) := by
  go_enter Tryd.func34, Tryd.ntmps34
  go_wp2_with fail
  refine H.out.mono ?_
  rintro e w1 ⟨rfl, hB⟩
  go_wp2
  go_ret2
  exact ⟨rfl, hB⟩
set_option maxHeartbeats 400000 in
theorem netMark (v : Value) (x : Nat) (c0 c1 c2 c3 c4 : Value) (k : Int) (w : World) (H : Hid (Calls Tryd.prog 46 #[v, .pointer (some ⟨x, 0, none⟩)] w (RetBlkM 83 #[c0, c1, c2, c3, c4, .int .u8 k] w))) : Calls Tryd.prog 34 #[.pointer (some ⟨x, 0, none⟩), v] w (RetMark #[c0, c1, c2, c3, c4, .int .u8 k] k w) := by
  go_enter Tryd.func34, Tryd.ntmps34
  go_wp2_with fail
  refine H.out.mono ?_
  rintro e w1 ⟨g, rfl, hb, hg, hB⟩
  have d5 : w1.cell? ⟨g, 5, none⟩ = some (.int .u8 k) := xb_cell hb 5
  have HB := Lib.hid hb
  have HBw := Lib.hid hB
  clear hb H hB
  go_wp2
  go_quiet (fail)
  go_wp2
  go_ret2
  exact ⟨g, rfl, HB.out, hg, bl_trans HBw.out (bl_drewN _ _)⟩

def impl_MarkerRead.f (a0 a1 a2 a3 a4 a5 a6 a7 a8 : Int) (a9 : Bool) (l : List Int) : Option (Int × Int × Int × Int × Int × Bool) :=
  if Byt l ∧ l.length ≤ 65535 then
    if l.length = 11 ∧ l.getD 4 0 = 12 then some (lenOf (longOf a9 a0) l, 12, l.getD 5 0, 0, l.getD 10 0, true)
    else some (0, 0, 0, 0, 0, false)
  else none
abbrev ctxV (a0 a1 a2 a3 a4 a5 a6 a7 a8 : Int) (a9 : Bool) : Value := .agg #[.int .u16 a0, .int .u16 a1, .int .u16 a2, .int .u16 a3, .int .u16 a4, .int .u8 a5, .int .u8 a6, .int .u32 a7, .int .u32 a8, .bool a9]
set_option maxHeartbeats 1000000 in
theorem implMarkNone (A : Option Addr) (c : Nat) (l : List Int) (a0 a1 a2 a3 a4 a5 a6 a7 a8 : Int) (a9 : Bool) (w : World) (hr : Kd.C (Kd.int .u8) w A l.length l) (hc : l.length ≤ c) (hb : Byt l) (hl : l.length ≤ 65535) (hno : ¬ (l.length = 11 ∧ l.getD 4 0 = 12)) :
    Calls Tryd.prog 22 #[.agg #[.int .u16 a0, .int .u16 a1, .int .u16 a2, .int .u16 a3, .int .u16 a4, .int .u8 a5, .int .u8 a6, .int .u32 a7, .int .u32 a8, .bool a9], .slice A l.length c] w (Ret (.tuple #[.agg #[.int .u32 0, .int .u8 0, .int .u8 0, .int .u16 0], .int .u8 0, .bool false]) w) := by
  have CL : Hid (∀ W, Below w.heap.size w W → Calls Tryd.prog 12 #[.slice A l.length c] W (RetRow l W)) := Lib.hid fun W hW => bytes_Clone.calls A c l l W (Kd.C_below hr hW) hc (by unfold bytes_Clone.f; rw [if_pos (by omega)])
  have NR : Hid (∀ (W : World) B v x, Kd.R (Kd.int .u8) 5 W B (fun _ => True) v l → W.cell? ⟨x, 9, none⟩ = some (.bool a9) → W.cell? ⟨x, 2, none⟩ = some (.int .u16 a0) → Calls Tryd.prog 34 #[.pointer (some ⟨x, 0, none⟩), v] W (RetNoMark W)) := Lib.hid fun W B v x hv x9 x2 => by
    obtain ⟨A', c', rfl, hc', hC⟩ := Kd.R_reads hv
    refine netMarkNone _ _ _ (Lib.hid ?_)
    by_cases h11 : l.length = 11
    · exact markOther A' c' l x a9 a0 W hC h11 hb (fun h => hno ⟨h11, h⟩) x9 x2
    · exact markShort _ _ _ _ _ h11
  clear hr hno
  go_enter Tryd.func22, Tryd.ntmps22
  go_wp2_with fail
  refine (contextOf a0 a1 a2 a3 a4 a5 a6 a7 a8 a9 _).mono ?_
  rintro e w1 ⟨x, rfl, hx, hxs, hB⟩
  have hs1 : w.heap.size + 2 ≤ w1.heap.size := by have := hB.size; simp only [World.size_alloc] at this; omega
  have b1 := blk_bl (heap_alloc2_new w (.cells #[.int .u16 a0, .int .u16 a1, .int .u16 a2, .int .u16 a3, .int .u16 a4, .int .u8 a5, .int .u8 a6, .int .u32 a7, .int .u32 a8, .bool a9] 34) (.cells #[.int .u32 0, .int .u8 0, .int .u8 0, .int .u16 0] 28)) hB (by simp)
  have hB1 : Below w.heap.size w w1 := bl_trans (((Below.refl _ _).alloc (Nat.le_refl _) _).alloc (by simp) _) hB
  have HX := Lib.hid hx
  have Hb1 := Lib.hid b1
  have HB1 := Lib.hid hB1
  clear hx b1 hB1 hB hxs
  go_wp2_with fail
  refine (CL.out _ HB1.out).mono ?_
  rintro e w2 ⟨v, rfl, hR, hB⟩
  have b2 := blk_bl Hb1.out hB (by omega)
  have x2 := blk_bl HX.out hB (xb_lt HX.out)
  have hs2 : w.heap.size + 2 ≤ w2.heap.size := Nat.le_trans hs1 hB.size
  have HX2 := Lib.hid x2
  have Hb2 := Lib.hid b2
  have HB2 := Lib.hid (bl_trans HB1.out hB)
  have HR := Lib.hid hR
  clear x2 b2 hR hB HX Hb1 HB1 CL hs1
  go_wp2_with fail
  refine (NR.out _ _ _ _ HR.out (xb_cell HX2.out 9) (xb_cell HX2.out 2)).mono ?_
  rintro e w3 ⟨rfl, hB⟩
  have b3 := blk_bl Hb2.out hB (by omega)
  have d0 := xb_cell b3 0
  have d1 := xb_cell b3 1
  have d2 := xb_cell b3 2
  have d3 := xb_cell b3 3
  have f0 := blk_free b3 0
  have f1 := blk_free b3 1
  have f2 := blk_free b3 2
  have f3 := blk_free b3 3
  have Hb3 := Lib.hid b3
  have HB3 := Lib.hid (bl_trans HB2.out hB)
  have hs3 : w.heap.size + 2 ≤ w3.heap.size := Nat.le_trans hs2 hB.size
  clear b3 hB NR HR HX2 Hb2 HB2 hs2
  go_wp2
  refine bodyPost_ret (results_list (rs := [.cell 4 28, .tmp 5, .tmp 6]) rfl (by simp) (.cell (w.heap.size + 1) 28 #[.int .u32 0, .int .u8 0, .int .u8 0, .int .u16 0] (0, 0) _ rfl (xb_set (xb_set (xb_set (xb_set Hb3.out 0 _) 1 _) 2 _) 3 _) Tryd.underlying28 rfl (by kernel_rfl) (.tmp (.tmp .nil)))) rfl ?_
  exact ⟨rfl, ((((HB3.out.setCell (by simp) _).setCell (by simp) _).setCell (by simp) _).setCell (by simp) _)⟩
set_option maxHeartbeats 1000000 in
theorem implMark (A : Option Addr) (c : Nat) (l : List Int) (a0 a1 a2 a3 a4 a5 a6 a7 a8 : Int) (a9 : Bool) (w : World) (hr : Kd.C (Kd.int .u8) w A l.length l) (hc : l.length ≤ c) (hb : Byt l) (hl : l.length ≤ 65535) (h11 : l.length = 11) (h12 : l.getD 4 0 = 12) :
    Calls Tryd.prog 22 #[.agg #[.int .u16 a0, .int .u16 a1, .int .u16 a2, .int .u16 a3, .int .u16 a4, .int .u8 a5, .int .u8 a6, .int .u32 a7, .int .u32 a8, .bool a9], .slice A l.length c] w (Ret (.tuple #[.agg #[.int .u32 (lenOf (longOf a9 a0) l), .int .u8 12, .int .u8 (l.getD 5 0), .int .u16 0], .int .u8 (l.getD 10 0), .bool true]) w) := by
  have CL : Hid (∀ W, Below w.heap.size w W → Calls Tryd.prog 12 #[.slice A l.length c] W (RetRow l W)) := Lib.hid fun W hW => bytes_Clone.calls A c l l W (Kd.C_below hr hW) hc (by unfold bytes_Clone.f; rw [if_pos (by omega)])
  have NR : Hid (∀ (W : World) B v x, Kd.R (Kd.int .u8) 5 W B (fun _ => True) v l → W.cell? ⟨x, 9, none⟩ = some (.bool a9) → W.cell? ⟨x, 2, none⟩ = some (.int .u16 a0) → Calls Tryd.prog 34 #[.pointer (some ⟨x, 0, none⟩), v] W (RetMark #[.int .u16 0, .int .u32 (lenOf (longOf a9 a0) l), .int .u8 12, .int .u8 (l.getD 5 0), .pointer (some ⟨x, 0, none⟩), .int .u8 (l.getD 10 0)] (l.getD 10 0) W)) := Lib.hid fun W B v x hv x9 x2 => by
    obtain ⟨A', c', rfl, hc', hC⟩ := Kd.R_reads hv
    exact netMark _ _ _ _ _ _ _ _ _ (Lib.hid (markOk A' c' l x a9 a0 W hC h11 hb h12 x9 x2))
  generalize lenOf (longOf a9 a0) l = len at *
  generalize l.getD 5 0 = y5 at *
  generalize l.getD 10 0 = y10 at *
  clear hr h11 h12
  go_enter Tryd.func22, Tryd.ntmps22
  go_wp2_with fail
  refine (contextOf a0 a1 a2 a3 a4 a5 a6 a7 a8 a9 _).mono ?_
  rintro e w1 ⟨x, rfl, hx, hxs, hB⟩
  have hs1 : w.heap.size + 2 ≤ w1.heap.size := by have := hB.size; simp only [World.size_alloc] at this; omega
  have b1 := blk_bl (heap_alloc2_new w (.cells #[.int .u16 a0, .int .u16 a1, .int .u16 a2, .int .u16 a3, .int .u16 a4, .int .u8 a5, .int .u8 a6, .int .u32 a7, .int .u32 a8, .bool a9] 34) (.cells #[.int .u32 0, .int .u8 0, .int .u8 0, .int .u16 0] 28)) hB (by simp)
  have hB1 : Below w.heap.size w w1 := bl_trans (((Below.refl _ _).alloc (Nat.le_refl _) _).alloc (by simp) _) hB
  have HX := Lib.hid hx
  have Hb1 := Lib.hid b1
  have HB1 := Lib.hid hB1
  clear hx b1 hB1 hB hxs
  go_wp2_with fail
  refine (CL.out _ HB1.out).mono ?_
  rintro e w2 ⟨v, rfl, hR, hB⟩
  have b2 := blk_bl Hb1.out hB (by omega)
  have x2 := blk_bl HX.out hB (xb_lt HX.out)
  have hs2 : w.heap.size + 2 ≤ w2.heap.size := Nat.le_trans hs1 hB.size
  have HX2 := Lib.hid x2
  have Hb2 := Lib.hid b2
  have HB2 := Lib.hid (bl_trans HB1.out hB)
  have HR := Lib.hid hR
  clear x2 b2 hR hB HX Hb1 HB1 CL hs1
  go_wp2_with fail
  refine (NR.out _ _ _ _ HR.out (xb_cell HX2.out 9) (xb_cell HX2.out 2)).mono ?_
  rintro e w3 ⟨p, rfl, hp, hps, hB⟩
  have b3 := blk_bl Hb2.out hB (by omega)
  have hHO : Hid (Calls Tryd.prog 26 #[.pointer (some ⟨p, 0, none⟩)] w3 (Ret (.agg #[.int .u32 len, .int .u8 12, .int .u8 y5, .int .u16 0]) w3)) := Lib.hid (headOf p len 12 y5 0 _ (xb_cell hp 0) (xb_cell hp 1) (xb_cell hp 2) (xb_cell hp 3))
  have Hb3 := Lib.hid b3
  have HB3 := Lib.hid (bl_trans HB2.out hB)
  have hs3 : w.heap.size + 2 ≤ w3.heap.size := Nat.le_trans hs2 hB.size
  clear b3 hB NR HR HX2 Hb2 HB2 hs2 hp hps
  go_wp2_with fail
  refine hHO.out.mono ?_
  rintro e w4 ⟨rfl, hB⟩
  have b4 := blk_bl Hb3.out hB (by omega)
  have d0 := xb_cell b4 0
  have d1 := xb_cell b4 1
  have d2 := xb_cell b4 2
  have d3 := xb_cell b4 3
  have f0 := blk_free b4 0
  have f1 := blk_free b4 1
  have f2 := blk_free b4 2
  have f3 := blk_free b4 3
  have Hb4 := Lib.hid b4
  have HB4 := Lib.hid (bl_trans HB3.out hB)
  clear b4 hB Hb3 HB3
  go_wp2
  refine bodyPost_ret (results_list (rs := [.cell 4 28, .tmp 5, .tmp 6]) rfl (by simp) (.cell (w.heap.size + 1) 28 #[.int .u32 len, .int .u8 12, .int .u8 y5, .int .u16 0] (0, 0) _ rfl (xb_set (xb_set (xb_set (xb_set Hb4.out 0 _) 1 _) 2 _) 3 _) Tryd.underlying28 rfl (by kernel_rfl) (.tmp (.tmp .nil)))) rfl ?_
  exact ⟨rfl, ((((HB4.out.setCell (by simp) _).setCell (by simp) _).setCell (by simp) _).setCell (by simp) _)⟩
theorem impl_MarkerRead.calls (a0 a1 a2 a3 a4 a5 a6 a7 a8 : Int) (a9 : Bool) (A1 : Option Addr) (c1 : Nat) (l1 : List Int) (r1 r2 r3 r4 r5 : Int) (r6 : Bool) (w : World) (hr1 : Kd.C (Kd.int .u8) w A1 l1.length l1) (hc1 : l1.length ≤ c1) (h : impl_MarkerRead.f a0 a1 a2 a3 a4 a5 a6 a7 a8 a9 l1 = some (r1, r2, r3, r4, r5, r6)) :
    Calls Tryd.prog 22 #[.agg #[.int .u16 a0, .int .u16 a1, .int .u16 a2, .int .u16 a3, .int .u16 a4, .int .u8 a5, .int .u8 a6, .int .u32 a7, .int .u32 a8, .bool a9], .slice A1 l1.length c1] w fun e w' => e = .returned (.tuple #[.agg #[.int .u32 r1, .int .u8 r2, .int .u8 r3, .int .u16 r4], .int .u8 r5, .bool r6]) ∧ Below w.heap.size w w' := by
  unfold impl_MarkerRead.f at h
  split at h
  · rename_i h1
    split at h
    · rename_i h2
      simp only [Option.some.injEq, Prod.mk.injEq] at h
      obtain ⟨rfl, rfl, rfl, rfl, rfl, rfl⟩ := h
      exact implMark A1 c1 l1 a0 a1 a2 a3 a4 a5 a6 a7 a8 a9 w hr1 hc1 h1.1 h1.2 h2.1 h2.2
    · rename_i h2
      simp only [Option.some.injEq, Prod.mk.injEq] at h
      obtain ⟨rfl, rfl, rfl, rfl, rfl, rfl⟩ := h
      exact implMarkNone A1 c1 l1 a0 a1 a2 a3 a4 a5 a6 a7 a8 a9 w hr1 hc1 h1.1 h1.2 h2
  · cases h
end Go.Proofs.YtpacjdlgnoiheaaDoor.X
