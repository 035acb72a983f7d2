/- impl.got where the input ends. -/
import Derived.Test.YtdnahdddkagfhaaDoorSa
namespace Go.Proofs.YtdnahdddkagfhaaDoor.X
open Go.RowKit Go.Proofs.YtdnahdddkagfhaaDoorW.PrintWords Go.Proofs.YtdnahdddkagfhaaDoorW.PrintMore
attribute [local go_sem] setCell_drewN alloc_drewN
set_option linter.unusedVariables false
set_option linter.unusedSimpArgs false
/-- What a step that fails leaves. -/
def Ses.GotT (b g c : Nat) (l : List Int) (big : Bool) (chunk : Int) (w : World) (e : Ending) (w' : World) : Prop := ∃ i, i ≤ l.length ∧ Ses.GotQ b g c l i big chunk ⟨false, [], [], 0⟩ w e w'
theorem Ses.got_blockE {w1 : World} {n : Nat} {a0 a1 a2 a3 a4 : Value} {T : TypeId} (k1 : w1.heap[n]? = some (.cells #[a0, a1, a2, a3, a4] T (0, 0))) (v0 v1 v2 v3 v4 : Value) :
    (((((w1.setCell ⟨n, 0, none⟩ v0).setCell ⟨n, 1, none⟩ v1).setCell ⟨n, 2, none⟩ v2).setCell ⟨n, 3, none⟩ v3).setCell ⟨n, 4, none⟩ v4).heap[n]? = some (.cells #[v0, v1, v2, v3, v4] T (0, 0)) := by
  refine (xb_set (xb_set (xb_set (xb_set (xb_set k1 0 v0) 1 v1) 2 v2) 3 v3) 4 v4).trans ?_
  simp
set_option maxHeartbeats 8000000 in
set_option maxRecDepth 100000 in
theorem gotE_bytes (w : World) (b g c : Nat) (l : List Int) (idx : Nat) (big : Bool) (chunk : Int) (tp : TypeId) (a : Addr) (size : Int) (sb sc : Bool) (h : Ses.RS w b g c l idx big chunk) (hE : Ses.EE tp a w) (hsz : 0 ≤ size)
    (hf : ∀ W, Ses.RS W b g c l idx big chunk → Ses.EE tp a W → Calls Tryd.prog 69 #[.pointer (some ⟨b, 0, none⟩), .int .i64 size] W fun e w' => e = .returned (.tuple #[.slice none 0 0, .iface tp (.pointer (some a))]) ∧ Ses.Ct b g c l big chunk W w') :
    Calls Tryd.prog 48 #[.pointer (some ⟨b, 0, none⟩), .agg #[.int .i64 1, .int .i64 size, .bool sb, .bool sc]] w (Ses.GotT b g c l big chunk w) := by
  have hb := xb_lt h.blk
  have hg0 := h.lt
  have hb4 := hE.ne h
  have HR := Lib.hid hf
  have HH := Lib.hid (h.bl (Ses.W3_bl w 1 size sb sc))
  have HE := Lib.hid (hE.bl (Ses.W3_bl w 1 size sb sc))
  have hz3 := Ses.W3_size w 1 size sb sc
  have tneg : decide (size < 0) = false := decide_eq_false (by omega)
  unfold Ses.W3 at HH HE hz3
  clear h hf hE hsz
  go_enter Tryd.func48, Tryd.ntmps48
  go_wp2_with (go_at_call 69; (with_reducible refine (HR.out _ HH.out HE.out).mono ?_); rintro e w1 ⟨rfl, i4, hi4, hrs, hg⟩; have HI4 := Lib.hid hi4; have HRS := Lib.hid hrs; have HG := Lib.hid (Ses.W3_grown (kind := 1) (size := size) (big := sb) (comp := sc) hb hg); have hk3 := Ses.G3_of (kind := 1) (size := size) (big := sb) (comp := sc) hb hg; have y0 := xb_cell hk3.k2 0; have z0 := xb_cell hk3.k1 0; have fy0 := blk_free hk3.k2 0; have fz0 := blk_free hk3.k1 0; have y1 := xb_cell hk3.k2 1; have z1 := xb_cell hk3.k1 1; have fy1 := blk_free hk3.k2 1; have fz1 := blk_free hk3.k1 1; have y2 := xb_cell hk3.k2 2; have z2 := xb_cell hk3.k1 2; have fy2 := blk_free hk3.k2 2; have fz2 := blk_free hk3.k1 2; have y3 := xb_cell hk3.k2 3; have z3 := xb_cell hk3.k1 3; have fy3 := blk_free hk3.k2 3; have fz3 := blk_free hk3.k1 3; have y4 := xb_cell hk3.k2 4; have z4 := xb_cell hk3.k1 4; have fy4 := blk_free hk3.k2 4; have fz4 := blk_free hk3.k1 4; simp only [List.getElem?_toArray, List.getElem?_cons_zero, List.getElem?_cons_succ] at y0 z0 y1 z1 y2 z2 y3 z3 y4 z4; have K0 := Lib.hid hk3; clear hrs hg hk3 hi4)
  refine bodyPost_ret (results_cell_row rfl _ _ (w.heap.size + 1) 38 #[.bool false, .slice none 0 0, .slice none 0 0, .int .i64 0, .string ⟨#[]⟩] (0, 0) _ rfl ?_ Tryd.underlying38 rfl (by kernel_rfl)) rfl ?_
  · refine Ses.got_blockE (a0 := .bool false) (a1 := .slice none 0 0) (a2 := .slice none 0 0) (a3 := .int .i64 0) (a4 := .string ⟨#[]⟩) ?_ _ _ _ _ _
    iterate 1 refine (blk_set_other (by omega)).trans ?_
    exact K0.out.k1
  · refine ⟨i4, HI4.out, none, 0, 0, none, 0, 0, rfl, Kd.R_nil _ _ _ _ _, Kd.R_nil _ _ _ _ _, ?_, ?_⟩
    · iterate 6 refine Ses.RS.far ?_ _ (by omega) (by omega)
      exact HRS.out
    · iterate 6 refine grown_far ?_ _ (by omega)
      exact HG.out
set_option maxHeartbeats 8000000 in
set_option maxRecDepth 100000 in
theorem gotE_clr (w : World) (b g c : Nat) (l : List Int) (idx : Nat) (big : Bool) (chunk : Int) (tp : TypeId) (a : Addr) (size : Int) (sb sc : Bool) (h : Ses.RS w b g c l idx big chunk) (hE : Ses.EE tp a w) (hsz : 0 ≤ size)
    (hf : ∀ W, Ses.RS W b g c l idx big chunk → Ses.EE tp a W → Calls Tryd.prog 70 #[.pointer (some ⟨b, 0, none⟩)] W fun e w' => e = .returned (.tuple #[.slice none 0 0, .iface tp (.pointer (some a))]) ∧ Ses.Ct b g c l big chunk W w') :
    Calls Tryd.prog 48 #[.pointer (some ⟨b, 0, none⟩), .agg #[.int .i64 2, .int .i64 size, .bool sb, .bool sc]] w (Ses.GotT b g c l big chunk w) := by
  have hb := xb_lt h.blk
  have hg0 := h.lt
  have hb4 := hE.ne h
  have HR := Lib.hid hf
  have HH := Lib.hid (h.bl (Ses.W3_bl w 2 size sb sc))
  have HE := Lib.hid (hE.bl (Ses.W3_bl w 2 size sb sc))
  have hz3 := Ses.W3_size w 2 size sb sc
  have tneg : decide (size < 0) = false := decide_eq_false (by omega)
  unfold Ses.W3 at HH HE hz3
  clear h hf hE hsz
  go_enter Tryd.func48, Tryd.ntmps48
  go_wp2_with (go_at_call 70; (with_reducible refine (HR.out _ HH.out HE.out).mono ?_); rintro e w1 ⟨rfl, i4, hi4, hrs, hg⟩; have HI4 := Lib.hid hi4; have HRS := Lib.hid hrs; have HG := Lib.hid (Ses.W3_grown (kind := 2) (size := size) (big := sb) (comp := sc) hb hg); have hk3 := Ses.G3_of (kind := 2) (size := size) (big := sb) (comp := sc) hb hg; have y0 := xb_cell hk3.k2 0; have z0 := xb_cell hk3.k1 0; have fy0 := blk_free hk3.k2 0; have fz0 := blk_free hk3.k1 0; have y1 := xb_cell hk3.k2 1; have z1 := xb_cell hk3.k1 1; have fy1 := blk_free hk3.k2 1; have fz1 := blk_free hk3.k1 1; have y2 := xb_cell hk3.k2 2; have z2 := xb_cell hk3.k1 2; have fy2 := blk_free hk3.k2 2; have fz2 := blk_free hk3.k1 2; have y3 := xb_cell hk3.k2 3; have z3 := xb_cell hk3.k1 3; have fy3 := blk_free hk3.k2 3; have fz3 := blk_free hk3.k1 3; have y4 := xb_cell hk3.k2 4; have z4 := xb_cell hk3.k1 4; have fy4 := blk_free hk3.k2 4; have fz4 := blk_free hk3.k1 4; simp only [List.getElem?_toArray, List.getElem?_cons_zero, List.getElem?_cons_succ] at y0 z0 y1 z1 y2 z2 y3 z3 y4 z4; have K0 := Lib.hid hk3; clear hrs hg hk3 hi4)
  refine bodyPost_ret (results_cell_row rfl _ _ (w.heap.size + 1) 38 #[.bool false, .slice none 0 0, .slice none 0 0, .int .i64 0, .string ⟨#[]⟩] (0, 0) _ rfl ?_ Tryd.underlying38 rfl (by kernel_rfl)) rfl ?_
  · refine Ses.got_blockE (a0 := .bool false) (a1 := .slice none 0 0) (a2 := .slice none 0 0) (a3 := .int .i64 0) (a4 := .string ⟨#[]⟩) ?_ _ _ _ _ _
    iterate 1 refine (blk_set_other (by omega)).trans ?_
    exact K0.out.k1
  · refine ⟨i4, HI4.out, none, 0, 0, none, 0, 0, rfl, Kd.R_nil _ _ _ _ _, Kd.R_nil _ _ _ _ _, ?_, ?_⟩
    · iterate 6 refine Ses.RS.far ?_ _ (by omega) (by omega)
      exact HRS.out
    · iterate 6 refine grown_far ?_ _ (by omega)
      exact HG.out
set_option maxHeartbeats 8000000 in
set_option maxRecDepth 100000 in
theorem gotE_fixed (w : World) (b g c : Nat) (l : List Int) (idx : Nat) (big : Bool) (chunk : Int) (tp : TypeId) (a : Addr) (size : Int) (sb sc : Bool) (h : Ses.RS w b g c l idx big chunk) (hE : Ses.EE tp a w) (hsz : 0 ≤ size)
    (hf : ∀ W, Ses.RS W b g c l idx big chunk → Ses.EE tp a W → Calls Tryd.prog 77 #[.pointer (some ⟨b, 0, none⟩)] W fun e w' => e = .returned (.tuple #[.slice none 0 0, .iface tp (.pointer (some a))]) ∧ Ses.Ct b g c l big chunk W w') :
    Calls Tryd.prog 48 #[.pointer (some ⟨b, 0, none⟩), .agg #[.int .i64 8, .int .i64 size, .bool sb, .bool sc]] w (Ses.GotT b g c l big chunk w) := by
  have hb := xb_lt h.blk
  have hg0 := h.lt
  have hb4 := hE.ne h
  have HR := Lib.hid hf
  have HH := Lib.hid (h.bl (Ses.W3_bl w 8 size sb sc))
  have HE := Lib.hid (hE.bl (Ses.W3_bl w 8 size sb sc))
  have hz3 := Ses.W3_size w 8 size sb sc
  have tneg : decide (size < 0) = false := decide_eq_false (by omega)
  unfold Ses.W3 at HH HE hz3
  clear h hf hE hsz
  go_enter Tryd.func48, Tryd.ntmps48
  go_wp2_with (go_at_call 77; (with_reducible refine (HR.out _ HH.out HE.out).mono ?_); rintro e w1 ⟨rfl, i4, hi4, hrs, hg⟩; have HI4 := Lib.hid hi4; have HRS := Lib.hid hrs; have HG := Lib.hid (Ses.W3_grown (kind := 8) (size := size) (big := sb) (comp := sc) hb hg); have hk3 := Ses.G3_of (kind := 8) (size := size) (big := sb) (comp := sc) hb hg; have y0 := xb_cell hk3.k2 0; have z0 := xb_cell hk3.k1 0; have fy0 := blk_free hk3.k2 0; have fz0 := blk_free hk3.k1 0; have y1 := xb_cell hk3.k2 1; have z1 := xb_cell hk3.k1 1; have fy1 := blk_free hk3.k2 1; have fz1 := blk_free hk3.k1 1; have y2 := xb_cell hk3.k2 2; have z2 := xb_cell hk3.k1 2; have fy2 := blk_free hk3.k2 2; have fz2 := blk_free hk3.k1 2; have y3 := xb_cell hk3.k2 3; have z3 := xb_cell hk3.k1 3; have fy3 := blk_free hk3.k2 3; have fz3 := blk_free hk3.k1 3; have y4 := xb_cell hk3.k2 4; have z4 := xb_cell hk3.k1 4; have fy4 := blk_free hk3.k2 4; have fz4 := blk_free hk3.k1 4; simp only [List.getElem?_toArray, List.getElem?_cons_zero, List.getElem?_cons_succ] at y0 z0 y1 z1 y2 z2 y3 z3 y4 z4; have K0 := Lib.hid hk3; clear hrs hg hk3 hi4)
  refine bodyPost_ret (results_cell_row rfl _ _ (w.heap.size + 1) 38 #[.bool false, .slice none 0 0, .slice none 0 0, .int .i64 0, .string ⟨#[]⟩] (0, 0) _ rfl ?_ Tryd.underlying38 rfl (by kernel_rfl)) rfl ?_
  · refine Ses.got_blockE (a0 := .bool false) (a1 := .slice none 0 0) (a2 := .slice none 0 0) (a3 := .int .i64 0) (a4 := .string ⟨#[]⟩) ?_ _ _ _ _ _
    iterate 1 refine (blk_set_other (by omega)).trans ?_
    exact K0.out.k1
  · refine ⟨i4, HI4.out, none, 0, 0, none, 0, 0, rfl, Kd.R_nil _ _ _ _ _, Kd.R_nil _ _ _ _ _, ?_, ?_⟩
    · iterate 6 refine Ses.RS.far ?_ _ (by omega) (by omega)
      exact HRS.out
    · iterate 6 refine grown_far ?_ _ (by omega)
      exact HG.out
set_option maxHeartbeats 8000000 in
set_option maxRecDepth 100000 in
theorem gotE_keyval (w : World) (b g c : Nat) (l : List Int) (idx : Nat) (big : Bool) (chunk : Int) (tp : TypeId) (a : Addr) (size : Int) (sb sc : Bool) (h : Ses.RS w b g c l idx big chunk) (hE : Ses.EE tp a w) (hsz : 0 ≤ size)
    (hf : ∀ W, Ses.RS W b g c l idx big chunk → Ses.EE tp a W → Calls Tryd.prog 75 #[.pointer (some ⟨b, 0, none⟩)] W fun e w' => (∃ A1 n1 c1 A2 n2 c2, e = .returned (.tuple #[.slice A1 n1 c1, .slice A2 n2 c2, .int .i64 0, .iface tp (.pointer (some a))])) ∧ Ses.Ct b g c l big chunk W w') :
    Calls Tryd.prog 48 #[.pointer (some ⟨b, 0, none⟩), .agg #[.int .i64 6, .int .i64 size, .bool sb, .bool sc]] w (Ses.GotT b g c l big chunk w) := by
  have hb := xb_lt h.blk
  have hg0 := h.lt
  have hb4 := hE.ne h
  have HR := Lib.hid hf
  have HH := Lib.hid (h.bl (Ses.W3_bl w 6 size sb sc))
  have HE := Lib.hid (hE.bl (Ses.W3_bl w 6 size sb sc))
  have hz3 := Ses.W3_size w 6 size sb sc
  have tneg : decide (size < 0) = false := decide_eq_false (by omega)
  unfold Ses.W3 at HH HE hz3
  clear h hf hE hsz
  go_enter Tryd.func48, Tryd.ntmps48
  go_wp2_with (go_at_call 75; (with_reducible refine (HR.out _ HH.out HE.out).mono ?_); rintro e w1 ⟨⟨A1, n1, c1, A2, n2, c2, rfl⟩, i4, hi4, hrs, hg⟩; have HI4 := Lib.hid hi4; have HRS := Lib.hid hrs; have HG := Lib.hid (Ses.W3_grown (kind := 6) (size := size) (big := sb) (comp := sc) hb hg); have hk3 := Ses.G3_of (kind := 6) (size := size) (big := sb) (comp := sc) hb hg; have y0 := xb_cell hk3.k2 0; have z0 := xb_cell hk3.k1 0; have fy0 := blk_free hk3.k2 0; have fz0 := blk_free hk3.k1 0; have y1 := xb_cell hk3.k2 1; have z1 := xb_cell hk3.k1 1; have fy1 := blk_free hk3.k2 1; have fz1 := blk_free hk3.k1 1; have y2 := xb_cell hk3.k2 2; have z2 := xb_cell hk3.k1 2; have fy2 := blk_free hk3.k2 2; have fz2 := blk_free hk3.k1 2; have y3 := xb_cell hk3.k2 3; have z3 := xb_cell hk3.k1 3; have fy3 := blk_free hk3.k2 3; have fz3 := blk_free hk3.k1 3; have y4 := xb_cell hk3.k2 4; have z4 := xb_cell hk3.k1 4; have fy4 := blk_free hk3.k2 4; have fz4 := blk_free hk3.k1 4; simp only [List.getElem?_toArray, List.getElem?_cons_zero, List.getElem?_cons_succ] at y0 z0 y1 z1 y2 z2 y3 z3 y4 z4; have K0 := Lib.hid hk3; clear hrs hg hk3 hi4)
  refine bodyPost_ret (results_cell_row rfl _ _ (w.heap.size + 1) 38 #[.bool false, .slice none 0 0, .slice none 0 0, .int .i64 0, .string ⟨#[]⟩] (0, 0) _ rfl ?_ Tryd.underlying38 rfl (by kernel_rfl)) rfl ?_
  · refine Ses.got_blockE (a0 := .bool false) (a1 := .slice none 0 0) (a2 := .slice none 0 0) (a3 := .int .i64 0) (a4 := .string ⟨#[]⟩) ?_ _ _ _ _ _
    iterate 3 refine (blk_set_other (by omega)).trans ?_
    exact K0.out.k1
  · refine ⟨i4, HI4.out, none, 0, 0, none, 0, 0, rfl, Kd.R_nil _ _ _ _ _, Kd.R_nil _ _ _ _ _, ?_, ?_⟩
    · iterate 8 refine Ses.RS.far ?_ _ (by omega) (by omega)
      exact HRS.out
    · iterate 8 refine grown_far ?_ _ (by omega)
      exact HG.out
set_option maxHeartbeats 8000000 in
set_option maxRecDepth 100000 in
theorem gotE_packed (w : World) (b g c : Nat) (l : List Int) (idx : Nat) (big : Bool) (chunk : Int) (tp : TypeId) (a : Addr) (size : Int) (sb : Bool) (h : Ses.RS w b g c l idx big chunk) (hE : Ses.EE tp a w) (hsz : 0 ≤ size) (hl : ∀ W, Ses.RS W b g c l idx big chunk → Ses.EE tp a W → Calls Tryd.prog 71 #[.pointer (some ⟨b, 0, none⟩)] W fun e w' => e = .returned (.bool false) ∧ Ses.RS w' b g c l idx big chunk ∧ W.grownBy w' (some b))
    (hf : ∀ W, Ses.RS W b g c l idx big chunk → Ses.EE tp a W → Calls Tryd.prog 73 #[.pointer (some ⟨b, 0, none⟩), .int .i64 size, .bool true, .bool sb] W fun e w' => e = .returned (.tuple #[.int .i64 0, .iface tp (.pointer (some a))]) ∧ Ses.Ct b g c l big chunk W w') :
    Calls Tryd.prog 48 #[.pointer (some ⟨b, 0, none⟩), .agg #[.int .i64 4, .int .i64 size, .bool sb, .bool true]] w (Ses.GotT b g c l big chunk w) := by
  have hb := xb_lt h.blk
  have hg0 := h.lt
  have hb4 := hE.ne h
  have HR := Lib.hid hf
  have HH := Lib.hid (h.bl (Ses.W3_bl w 4 size sb true))
  have HE := Lib.hid (hE.bl (Ses.W3_bl w 4 size sb true))
  have hz3 := Ses.W3_size w 4 size sb true
  have tneg : decide (size < 0) = false := decide_eq_false (by omega)
  have HL := Lib.hid hl
  unfold Ses.W3 at HH HE hz3
  clear h hf hE hsz hl
  go_enter Tryd.func48, Tryd.ntmps48
  go_wp2_with (first | (go_at_call 71; (with_reducible refine (HL.out _ HH.out HE.out).mono ?_); rintro e w0 ⟨rfl, hrs, hg⟩; have HRS1 := Lib.hid hrs; have HG1 := Lib.hid hg; have HE1 := Lib.hid (HE.out.grown hg hb4); have hk3 := Ses.G3_of (kind := 4) (size := size) (big := sb) (comp := true) hb hg; have x0 := xb_cell hk3.k0 0; have x1 := xb_cell hk3.k0 1; have x2 := xb_cell hk3.k0 2; have x3 := xb_cell hk3.k0 3; simp only [List.getElem?_toArray, List.getElem?_cons_zero, List.getElem?_cons_succ] at x0 x1 x2 x3; clear hrs hg hk3) | (go_at_call 73; (with_reducible refine (HR.out _ HRS1.out HE1.out).mono ?_); rintro e w1 ⟨rfl, i4, hi4, hrs, hg⟩; have HI4 := Lib.hid hi4; have HRS := Lib.hid hrs; have HG := Lib.hid (Ses.W3_grown (kind := 4) (size := size) (big := sb) (comp := true) hb (grown_trans HG1.out hg)); have hk3 := Ses.G3_of (kind := 4) (size := size) (big := sb) (comp := true) hb (grown_trans HG1.out hg); have y0 := xb_cell hk3.k2 0; have z0 := xb_cell hk3.k1 0; have fy0 := blk_free hk3.k2 0; have fz0 := blk_free hk3.k1 0; have y1 := xb_cell hk3.k2 1; have z1 := xb_cell hk3.k1 1; have fy1 := blk_free hk3.k2 1; have fz1 := blk_free hk3.k1 1; have y2 := xb_cell hk3.k2 2; have z2 := xb_cell hk3.k1 2; have fy2 := blk_free hk3.k2 2; have fz2 := blk_free hk3.k1 2; have y3 := xb_cell hk3.k2 3; have z3 := xb_cell hk3.k1 3; have fy3 := blk_free hk3.k2 3; have fz3 := blk_free hk3.k1 3; have y4 := xb_cell hk3.k2 4; have z4 := xb_cell hk3.k1 4; have fy4 := blk_free hk3.k2 4; have fz4 := blk_free hk3.k1 4; simp only [List.getElem?_toArray, List.getElem?_cons_zero, List.getElem?_cons_succ] at y0 z0 y1 z1 y2 z2 y3 z3 y4 z4; have K0 := Lib.hid hk3; clear hrs hg hk3 hi4))
  refine bodyPost_ret (results_cell_row rfl _ _ (w.heap.size + 1) 38 #[.bool false, .slice none 0 0, .slice none 0 0, .int .i64 0, .string ⟨#[]⟩] (0, 0) _ rfl ?_ Tryd.underlying38 rfl (by kernel_rfl)) rfl ?_
  · refine Ses.got_blockE (a0 := .bool false) (a1 := .slice none 0 0) (a2 := .slice none 0 0) (a3 := .int .i64 0) (a4 := .string ⟨#[]⟩) ?_ _ _ _ _ _
    iterate 1 refine (blk_set_other (by omega)).trans ?_
    exact K0.out.k1
  · refine ⟨i4, HI4.out, none, 0, 0, none, 0, 0, rfl, Kd.R_nil _ _ _ _ _, Kd.R_nil _ _ _ _ _, ?_, ?_⟩
    · iterate 6 refine Ses.RS.far ?_ _ (by omega) (by omega)
      exact HRS.out
    · iterate 6 refine grown_far ?_ _ (by omega)
      exact HG.out
set_option maxHeartbeats 8000000 in
set_option maxRecDepth 100000 in
theorem gotE_sized (w : World) (b g c : Nat) (l : List Int) (idx : Nat) (big : Bool) (chunk : Int) (tp : TypeId) (a : Addr) (m : Nat) (sb : Bool) (h : Ses.RS w b g c l idx big chunk) (hE : Ses.EE tp a w) (hm0 : 0 < m) (hm8 : m ≤ 8)
    (hf : ∀ W, Ses.RS W b g c l idx big chunk → Ses.EE tp a W → Calls Tryd.prog 73 #[.pointer (some ⟨b, 0, none⟩), .int .i64 m, .bool false, .bool sb] W fun e w' => e = .returned (.tuple #[.int .i64 0, .iface tp (.pointer (some a))]) ∧ Ses.Ct b g c l big chunk W w') :
    Calls Tryd.prog 48 #[.pointer (some ⟨b, 0, none⟩), .agg #[.int .i64 4, .int .i64 (m : Int), .bool sb, .bool false]] w (Ses.GotT b g c l big chunk w) := by
  have hb := xb_lt h.blk
  have hg0 := h.lt
  have hb4 := hE.ne h
  have HR := Lib.hid hf
  have HH := Lib.hid (h.bl (Ses.W3_bl w 4 (m : Int) sb false))
  have HE := Lib.hid (hE.bl (Ses.W3_bl w 4 (m : Int) sb false))
  have hz3 := Ses.W3_size w 4 (m : Int) sb false
  have dm0 : decide ((m : Int) < 0) = false := decide_eq_false (by omega)
  have dm1 : decide ((m : Int) < 1) = false := decide_eq_false (by omega)
  have dm2 : decide ((8 : Int) < (m : Int)) = false := decide_eq_false (by omega)
  unfold Ses.W3 at HH HE hz3
  clear h hf hE
  go_enter Tryd.func48, Tryd.ntmps48
  go_wp2_with (go_at_call 73; (with_reducible refine (HR.out _ HH.out HE.out).mono ?_); rintro e w1 ⟨rfl, i4, hi4, hrs, hg⟩; have HI4 := Lib.hid hi4; have HRS := Lib.hid hrs; have HG := Lib.hid (Ses.W3_grown (kind := 4) (size := (m : Int)) (big := sb) (comp := false) hb hg); have hk3 := Ses.G3_of (kind := 4) (size := (m : Int)) (big := sb) (comp := false) hb hg; have y0 := xb_cell hk3.k2 0; have z0 := xb_cell hk3.k1 0; have fy0 := blk_free hk3.k2 0; have fz0 := blk_free hk3.k1 0; have y1 := xb_cell hk3.k2 1; have z1 := xb_cell hk3.k1 1; have fy1 := blk_free hk3.k2 1; have fz1 := blk_free hk3.k1 1; have y2 := xb_cell hk3.k2 2; have z2 := xb_cell hk3.k1 2; have fy2 := blk_free hk3.k2 2; have fz2 := blk_free hk3.k1 2; have y3 := xb_cell hk3.k2 3; have z3 := xb_cell hk3.k1 3; have fy3 := blk_free hk3.k2 3; have fz3 := blk_free hk3.k1 3; have y4 := xb_cell hk3.k2 4; have z4 := xb_cell hk3.k1 4; have fy4 := blk_free hk3.k2 4; have fz4 := blk_free hk3.k1 4; simp only [List.getElem?_toArray, List.getElem?_cons_zero, List.getElem?_cons_succ] at y0 z0 y1 z1 y2 z2 y3 z3 y4 z4; have K0 := Lib.hid hk3; clear hrs hg hk3 hi4)
  refine bodyPost_ret (results_cell_row rfl _ _ (w.heap.size + 1) 38 #[.bool false, .slice none 0 0, .slice none 0 0, .int .i64 0, .string ⟨#[]⟩] (0, 0) _ rfl ?_ Tryd.underlying38 rfl (by kernel_rfl)) rfl ?_
  · refine Ses.got_blockE (a0 := .bool false) (a1 := .slice none 0 0) (a2 := .slice none 0 0) (a3 := .int .i64 0) (a4 := .string ⟨#[]⟩) ?_ _ _ _ _ _
    iterate 1 refine (blk_set_other (by omega)).trans ?_
    exact K0.out.k1
  · refine ⟨i4, HI4.out, none, 0, 0, none, 0, 0, rfl, Kd.R_nil _ _ _ _ _, Kd.R_nil _ _ _ _ _, ?_, ?_⟩
    · iterate 6 refine Ses.RS.far ?_ _ (by omega) (by omega)
      exact HRS.out
    · iterate 6 refine grown_far ?_ _ (by omega)
      exact HG.out
end Go.Proofs.YtdnahdddkagfhaaDoor.X
