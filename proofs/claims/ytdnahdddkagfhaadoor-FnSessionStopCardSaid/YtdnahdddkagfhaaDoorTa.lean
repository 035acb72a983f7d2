/- Merged: Rd Gn Sg Buf Buw Pl Ws Wt Dp Wu Wv Wc Wd We Wf. -/
import Derived.Test.YtdnahdddkagfhaaDoorProg
import Derived.Test.YtdnahdddkagfhaaDoorKit
import Derived.Test.YtdnahdddkagfhaaDoorShelf
import Derived.Deep.RegionHeld3
import Derived.Deep.RegionWith
import Derived.Laws.CopyOwn
import Derived.Lib.BufferMore
import Derived.Lib.BufferGrow
import Derived.Laws.CopyRow
import Derived.Lib.Bytealg
import Derived.Lib.Bytes
import Derived.Lib.Endian
import Derived.Deep.Upon
/- Reading of a session: (*Session).read, GetByte, GetBytes, where the input is long enough. -/
namespace Go.Proofs.YtdnahdddkagfhaaDoor.X
open Go.RowKit Go.Proofs.YtdnahdddkagfhaaDoorW.PrintWords Go.Proofs.YtdnahdddkagfhaaDoorW.PrintMore
attribute [local go_sem] setCell_drewN alloc_drewN
set_option linter.unusedVariables false
set_option linter.unusedSimpArgs false
theorem _root_.Go.World.grownBy.drew {a w : World} {row : Option Nat} (h : a.grownBy w row) : a.grownBy w.drew row := grown_bl h (below_drew (Below.refl _ _))
namespace Ses
/-- The cells of a session that only reads. -/
def cellsR (g n c idx : Nat) (big : Bool) (chunk : Int) : Array Value := #[.slice (some ⟨g, 0, none⟩) n c, .slice none 0 0, .int .i64 0, .int .i8 0, .int .i64 idx, .bool big, .int .i64 chunk]
/-- A session at block b whose input, at block g, is l, of which idx are read. -/
structure RS (w : World) (b g c : Nat) (l : List Int) (idx : Nat) (big : Bool) (chunk : Int) : Prop where
  blk : w.heap[b]? = some (.cells (cellsR g l.length c idx big chunk) 82 (0, 0))
  ne : g ≠ b
  cap : l.length ≤ c
  cells : ∀ i : Nat, i < l.length → w.cell? ⟨g, i, none⟩ = some (.int .u8 (l.getD i 0))
  max : l.length ≤ 1000000
  lt : g < w.heap.size
theorem RS.bl {w w' : World} {b g c : Nat} {l : List Int} {idx : Nat} {big : Bool} {chunk : Int} (h : RS w b g c l idx big chunk) (k : Below w.heap.size w w') : RS w' b g c l idx big chunk :=
  ⟨blk_bl h.blk k (xb_lt h.blk), h.ne, h.cap, fun i hi => bl_cell k (h.cells i hi), h.max, Nat.lt_of_lt_of_le h.lt k.size⟩
theorem RS.grown {w w' : World} {b g c r : Nat} {l : List Int} {idx : Nat} {big : Bool} {chunk : Int} (h : RS w b g c l idx big chunk) (k : w.grownBy w' (some r)) (hb : b ≠ r) (hg : g ≠ r) : RS w' b g c l idx big chunk := by
  have e1 := k.block b (xb_lt h.blk) (fun e => hb (Option.some.inj e))
  have e2 := k.block g h.lt (fun e => hg (Option.some.inj e))
  refine ⟨e1.trans h.blk, h.ne, h.cap, fun i hi => ?_, h.max, Nat.lt_of_lt_of_le h.lt k.size⟩
  have hc := h.cells i hi
  unfold World.cell? at hc ⊢
  rw [e2]
  exact hc
theorem RS.put {w : World} {b g c : Nat} {l : List Int} {idx : Nat} {big : Bool} {chunk : Int} (h : RS w b g c l idx big chunk) (j : Nat) : RS (w.setCell ⟨b, 4, none⟩ (.int .i64 j)) b g c l j big chunk := by
  refine ⟨?_, h.ne, h.cap, fun i hi => (set_far h.ne).trans (h.cells i hi), h.max, by rw [World.size_setCell]; exact h.lt⟩
  rw [xb_set h.blk 4]
  rfl
theorem RS.drew {w : World} {b g c : Nat} {l : List Int} {idx : Nat} {big : Bool} {chunk : Int} (h : RS w b g c l idx big chunk) (m : Nat) : RS (w.drewN m) b g c l idx big chunk := h.bl (bl_drewN w m)
theorem RS.c0 {w : World} {b g c : Nat} {l : List Int} {idx : Nat} {big : Bool} {chunk : Int} (h : RS w b g c l idx big chunk) : w.cell? ⟨b, 0, none⟩ = some (.slice (some ⟨g, 0, none⟩) l.length c) := by rw [xb_cell h.blk]; rfl
theorem RS.c4 {w : World} {b g c : Nat} {l : List Int} {idx : Nat} {big : Bool} {chunk : Int} (h : RS w b g c l idx big chunk) : w.cell? ⟨b, 4, none⟩ = some (.int .i64 idx) := by rw [xb_cell h.blk]; rfl
theorem RS.c5 {w : World} {b g c : Nat} {l : List Int} {idx : Nat} {big : Bool} {chunk : Int} (h : RS w b g c l idx big chunk) : w.cell? ⟨b, 5, none⟩ = some (.bool big) := by rw [xb_cell h.blk]; rfl
end Ses
set_option maxHeartbeats 4000000 in
set_option maxRecDepth 100000 in
theorem read_ok (w : World) (b g c : Nat) (l : List Int) (idx k : Nat) (big : Bool) (chunk : Int) (h : Ses.RS w b g c l idx big chunk) (hk : idx + k ≤ l.length) (hk0 : 0 < k) :
    Calls Tryd.prog 82 #[.pointer (some ⟨b, 0, none⟩), .int .i64 k] w fun e w' => e = .returned (.tuple #[.slice (some ⟨g, idx, none⟩) k (c - idx), .nilIface]) ∧ Ses.RS w' b g c l (idx + k) big chunk ∧ w.grownBy w' (some b) := by
  have HH := Lib.hid h
  have c0 := h.c0
  have c4 := h.c4
  have f4 := blk_free h.blk 4
  obtain ⟨hblk, hne, hcap, hcells, hmax, hlt⟩ := h
  clear hblk hcells
  have HN : Hid (l.length = l.length) := Lib.hid rfl
  generalize hn : l.length = n at *
  have p0 : (0 : Int) ≤ (idx : Int) := by omega
  have p1 : (idx : Int) ≤ (idx : Int) + (k : Int) := by omega
  have p2 : (idx : Int) + (k : Int) ≤ (n : Int) := by omega
  have p4 : decide ((n : Int) < (idx : Int) + (k : Int)) = false := decide_eq_false (by omega)
  have p5 : (idx : Int) + (k : Int) ≤ (c : Int) := by omega
  have p6 : (0 : Int) ≤ (idx : Int) + (k : Int) := by omega
  have p7 : (idx : Int) ≤ (c : Int) := by omega
  have p8 : decide ((k : Int) < (k : Int)) = false := decide_eq_false (by omega)
  have pw : IntKind.i64.wrap ((idx : Int) + (k : Int)) = (idx : Int) + (k : Int) := (IntKind.wrap_i64 _).trans (by omega)
  have q1 : (c = idx) = False := eq_false (by omega)
  have q2 : ((c : Int) = (idx : Int)) = False := eq_false (by omega)
  go_enter Tryd.func82, Tryd.ntmps82
  go_wp2
  go_region_held3 (fun w' => w'.cell? ⟨b, 0, none⟩ = some (.slice (some ⟨g, 0, none⟩) n c) ∧ w'.cell? ⟨b, 4, none⟩ = some (.int .i64 (idx : Int))) (first | exact ⟨c0, c4⟩) (first | fail)
  go_wp2
  go_region_held3 (fun w' => w'.cell? ⟨b, 0, none⟩ = some (.slice (some ⟨g, 0, none⟩) n c) ∧ w'.cell? ⟨b, 4, none⟩ = some (.int .i64 (idx : Int))) (first | exact ⟨c0, c4⟩) (first | fail)
  go_wp2
  go_ret2
  refine ⟨congrArg (fun m => Ending.returned (.tuple #[.slice (some ⟨g, idx, none⟩) m (c - idx), .nilIface])) (by omega), ?_, (grown_set (grown_refl w (some b))).drew.drew⟩
  have hp := HH.out.put (idx + k)
  rw [Int.natCast_add] at hp
  exact hp.bl (below_drew (below_drew (Below.refl _ _)))
set_option maxHeartbeats 4000000 in
set_option maxRecDepth 100000 in
theorem getByte_ok (w : World) (b g c : Nat) (l : List Int) (idx : Nat) (big : Bool) (chunk : Int) (h : Ses.RS w b g c l idx big chunk) (hk : idx < l.length) :
    Calls Tryd.prog 68 #[.pointer (some ⟨b, 0, none⟩)] w fun e w' => e = .returned (.tuple #[.int .u8 (l.getD idx 0), .nilIface]) ∧ Ses.RS w' b g c l (idx + 1) big chunk ∧ w.grownBy w' (some b) := by
  have hr := read_ok w b g c l idx 1 big chunk h (by omega) (by omega)
  rw [show ((1 : Nat) : Int) = 1 from rfl] at hr
  have HR := Lib.hid hr
  clear hr
  have HC := Lib.hid (fun W (hw : Ses.RS W b g c l (idx + 1) big chunk) => hw.cells idx hk)
  generalize l.getD idx 0 = x at *
  clear hk h
  go_enter Tryd.func68, Tryd.ntmps68
  go_wp2_with (go_at_call 82; (with_reducible refine HR.out.mono ?_); rintro e w1 ⟨rfl, hrs, hg⟩; have HRS := Lib.hid hrs; have HG := Lib.hid hg; have x0 := HC.out _ hrs; clear hrs hg)
  go_ret2
  exact ⟨rfl, HRS.out, HG.out⟩
set_option maxHeartbeats 4000000 in
set_option maxRecDepth 100000 in
theorem getBytes_ok (w : World) (b g c : Nat) (l : List Int) (idx k : Nat) (big : Bool) (chunk : Int) (h : Ses.RS w b g c l idx big chunk) (hk : idx + k ≤ l.length) (hk0 : 0 < k) :
    Calls Tryd.prog 69 #[.pointer (some ⟨b, 0, none⟩), .int .i64 k] w fun e w' => e = .returned (.tuple #[.slice (some ⟨g, idx, none⟩) k (c - idx), .nilIface]) ∧ Ses.RS w' b g c l (idx + k) big chunk ∧ w.grownBy w' (some b) := by
  have HR := Lib.hid (read_ok w b g c l idx k big chunk h hk hk0)
  go_enter Tryd.func69, Tryd.ntmps69
  go_wp2_with (go_at_call 82; (with_reducible refine HR.out.mono ?_); rintro e w1 ⟨rfl, hrs, hg⟩; have HRS := Lib.hid hrs; have HG := Lib.hid hg; clear hrs hg)
  go_ret2
  exact ⟨rfl, HRS.out, HG.out⟩
set_option maxHeartbeats 4000000 in
set_option maxRecDepth 100000 in
/-- A CLR that is none: its first byte is 0, 255 or 253. -/
theorem getClr_none (w : World) (b g c : Nat) (l : List Int) (idx : Nat) (big : Bool) (chunk : Int) (h : Ses.RS w b g c l idx big chunk) (hk : idx < l.length) (hz : l.getD idx 0 = 0 ∨ l.getD idx 0 = 255 ∨ l.getD idx 0 = 253) :
    Calls Tryd.prog 70 #[.pointer (some ⟨b, 0, none⟩)] w fun e w' => e = .returned (.tuple #[.slice none 0 0, .nilIface]) ∧ Ses.RS w' b g c l (idx + 1) big chunk ∧ w.grownBy w' (some b) := by
  have HR := Lib.hid (getByte_ok w b g c l idx big chunk h hk)
  generalize l.getD idx 0 = x at *
  rcases hz with rfl | rfl | rfl
  all_goals go_enter Tryd.func70, Tryd.ntmps70
  all_goals go_wp2_with (go_at_call 68; (with_reducible refine HR.out.mono ?_); rintro e w1 ⟨rfl, hrs, hg⟩; have HRS := Lib.hid hrs; have HG := Lib.hid hg; clear hrs hg)
  all_goals go_ret2
  all_goals exact ⟨rfl, HRS.out, HG.out⟩
set_option maxHeartbeats 4000000 in
set_option maxRecDepth 100000 in
/-- A fixed CLR that is none. -/
theorem getFixed_none (w : World) (b g c : Nat) (l : List Int) (idx : Nat) (big : Bool) (chunk : Int) (h : Ses.RS w b g c l idx big chunk) (hk : idx < l.length) (hz : l.getD idx 0 = 0 ∨ l.getD idx 0 = 255 ∨ l.getD idx 0 = 253) :
    Calls Tryd.prog 77 #[.pointer (some ⟨b, 0, none⟩)] w fun e w' => e = .returned (.tuple #[.slice none 0 0, .nilIface]) ∧ Ses.RS w' b g c l (idx + 1) big chunk ∧ w.grownBy w' (some b) := by
  have HR := Lib.hid (getByte_ok w b g c l idx big chunk h hk)
  generalize l.getD idx 0 = x at *
  rcases hz with rfl | rfl | rfl
  all_goals go_enter Tryd.func77, Tryd.ntmps77
  all_goals go_wp2_with (go_at_call 68; (with_reducible refine HR.out.mono ?_); rintro e w1 ⟨rfl, hrs, hg⟩; have HRS := Lib.hid hrs; have HG := Lib.hid hg; clear hrs hg)
  all_goals go_ret2
  all_goals exact ⟨rfl, HRS.out, HG.out⟩
end Go.Proofs.YtdnahdddkagfhaaDoor.X
/- impl.got: a step of a reader that gives none. -/
namespace Go.Proofs.YtdnahdddkagfhaaDoor.X
open Go.RowKit Go.Proofs.YtdnahdddkagfhaaDoorW.PrintWords Go.Proofs.YtdnahdddkagfhaaDoorW.PrintMore
attribute [local go_sem] setCell_drewN alloc_drewN
set_option linter.unusedVariables false
set_option linter.unusedSimpArgs false
theorem grown_far {a w : World} {row : Option Nat} (h : a.grownBy w row) {p i : Nat} (u : Value) (hp : a.heap.size ≤ p) : a.grownBy (w.setCell ⟨p, i, none⟩ u) row :=
  ⟨h.os, h.tape, h.output, by rw [World.size_setCell]; exact h.size, fun k hk hr => (blk_set_other (by omega)).trans (h.block k hk hr)⟩
namespace Ses
theorem RS.far {w : World} {b g c p i : Nat} {l : List Int} {idx : Nat} {big : Bool} {chunk : Int} (h : RS w b g c l idx big chunk) (u : Value) (hb : b ≠ p) (hg : g ≠ p) : RS (w.setCell ⟨p, i, none⟩ u) b g c l idx big chunk :=
  ⟨(blk_set_other hb).trans h.blk, h.ne, h.cap, fun j hj => (set_far hg).trans (h.cells j hj), h.max, by rw [World.size_setCell]; exact h.lt⟩
/-- The three blocks that impl.got makes: the step, its result, and what it gives. -/
def W3 (w : World) (kind size : Int) (big comp : Bool) : World := ((w.alloc (.cells #[.int .i64 kind, .int .i64 size, .bool big, .bool comp] 35)).alloc (.cells #[.bool false, .slice none 0 0, .slice none 0 0, .int .i64 0, .string ⟨#[]⟩] 38)).alloc (.cells #[.bool false, .slice none 0 0, .slice none 0 0, .int .i64 0, .string ⟨#[]⟩] 38)
theorem W3_bl (w : World) (kind size : Int) (big comp : Bool) : Below w.heap.size w (W3 w kind size big comp) := below_alloc (below_alloc (below_alloc (Below.refl _ _) _) _) _
theorem W3_size (w : World) (kind size : Int) (big comp : Bool) : (W3 w kind size big comp).heap.size = w.heap.size + 1 + 1 + 1 := by unfold W3; rw [World.size_alloc, World.size_alloc, World.size_alloc]
theorem W3_0 (w : World) (kind size : Int) (big comp : Bool) : (W3 w kind size big comp).heap[w.heap.size]? = some (.cells #[.int .i64 kind, .int .i64 size, .bool big, .bool comp] 35 (0, 0)) := xb_alloc (xb_alloc (xb_new _ _))
theorem W3_1 (w : World) (kind size : Int) (big comp : Bool) : (W3 w kind size big comp).heap[w.heap.size + 1]? = some (.cells #[.bool false, .slice none 0 0, .slice none 0 0, .int .i64 0, .string ⟨#[]⟩] 38 (0, 0)) := xb_alloc (by
  have := xb_new (w.alloc (.cells #[.int .i64 kind, .int .i64 size, .bool big, .bool comp] 35)) (.cells #[.bool false, .slice none 0 0, .slice none 0 0, .int .i64 0, .string ⟨#[]⟩] 38)
  rwa [World.size_alloc] at this)
theorem W3_2 (w : World) (kind size : Int) (big comp : Bool) : (W3 w kind size big comp).heap[w.heap.size + 1 + 1]? = some (.cells #[.bool false, .slice none 0 0, .slice none 0 0, .int .i64 0, .string ⟨#[]⟩] 38 (0, 0)) := by
  have := xb_new ((w.alloc (.cells #[.int .i64 kind, .int .i64 size, .bool big, .bool comp] 35)).alloc (.cells #[.bool false, .slice none 0 0, .slice none 0 0, .int .i64 0, .string ⟨#[]⟩] 38)) (.cells #[.bool false, .slice none 0 0, .slice none 0 0, .int .i64 0, .string ⟨#[]⟩] 38)
  rwa [World.size_alloc, World.size_alloc] at this
theorem W3_grown {w w1 : World} {kind size : Int} {big comp : Bool} {b : Nat} (hb : b < w.heap.size) (h : (W3 w kind size big comp).grownBy w1 (some b)) : w.grownBy w1 (some b) :=
  grown_trans ⟨(W3_bl w kind size big comp).os, (W3_bl w kind size big comp).tape, (W3_bl w kind size big comp).output, (W3_bl w kind size big comp).size, fun i hi _ => (W3_bl w kind size big comp).block i hi⟩ h
theorem got_block {w1 : World} {n1 n2 : Nat} {a0 a1 a2 a3 a4 : Value} {T : TypeId} (hne : n1 ≠ n2) (k1 : w1.heap[n1]? = some (.cells #[a0, a1, a2, a3, a4] T (0, 0))) (u1 u2 u3 u4 v0 v1 v2 v3 v4 : Value) :
    (((((((((w1.setCell ⟨n2, 1, none⟩ u1).setCell ⟨n2, 0, none⟩ u2).setCell ⟨n2, 1, none⟩ u3).setCell ⟨n2, 2, none⟩ u4).setCell ⟨n1, 0, none⟩ v0).setCell ⟨n1, 1, none⟩ v1).setCell ⟨n1, 2, none⟩ v2).setCell ⟨n1, 3, none⟩ v3).setCell ⟨n1, 4, none⟩ v4).drew.heap[n1]? = some (.cells #[v0, v1, v2, v3, v4] T (0, 0)) := by
  have e : ∀ W : World, W.drew.heap = W.heap := fun _ => rfl
  rw [e]
  have h0 := (blk_set_other (u := u4) (i := 2) hne).trans ((blk_set_other (u := u3) (i := 1) hne).trans ((blk_set_other (u := u2) (i := 0) hne).trans ((blk_set_other (u := u1) (i := 1) hne).trans k1)))
  have h5 := xb_set (xb_set (xb_set (xb_set (xb_set h0 0 v0) 1 v1) 2 v2) 3 v3) 4 v4
  simpa using h5
/-- The cells of the three blocks, behind a call that leaves all but block b. -/
structure G3 (w w1 : World) (kind size : Int) (big comp : Bool) (num : Int) (data other : Value) (ok : Bool) : Prop where
  k0 : w1.heap[w.heap.size]? = some (.cells #[.int .i64 kind, .int .i64 size, .bool big, .bool comp] 35 (0, 0))
  k1 : w1.heap[w.heap.size + 1]? = some (.cells #[.bool false, .slice none 0 0, .slice none 0 0, .int .i64 0, .string ⟨#[]⟩] 38 (0, 0))
  k2 : w1.heap[w.heap.size + 1 + 1]? = some (.cells #[.bool ok, data, other, .int .i64 num, .string ⟨#[]⟩] 38 (0, 0))
theorem G3_of {w w1 : World} {kind size : Int} {big comp : Bool} {b : Nat} (hb : b < w.heap.size) (h : (W3 w kind size big comp).grownBy w1 (some b)) : G3 w w1 kind size big comp 0 (.slice none 0 0) (.slice none 0 0) false :=
  ⟨(h.block _ (by rw [W3_size]; omega) (fun e => by have := Option.some.inj e; omega)).trans (W3_0 w kind size big comp), (h.block _ (by rw [W3_size]; omega) (fun e => by have := Option.some.inj e; omega)).trans (W3_1 w kind size big comp), (h.block _ (by rw [W3_size]; omega) (fun e => by have := Option.some.inj e; omega)).trans (W3_2 w kind size big comp)⟩
end Ses
set_option maxHeartbeats 1000000 in
set_option maxRecDepth 100000 in
/-- A CLR that is none. -/
theorem got_clr_none (w : World) (b g c : Nat) (l : List Int) (idx : Nat) (big : Bool) (chunk : Int) (h : Ses.RS w b g c l idx big chunk) (hk : idx < l.length) (hz : l.getD idx 0 = 0 ∨ l.getD idx 0 = 255 ∨ l.getD idx 0 = 253) :
    Calls Tryd.prog 48 #[.pointer (some ⟨b, 0, none⟩), .agg #[.int .i64 2, .int .i64 0, .bool false, .bool false]] w fun e w' => e = .returned (.agg #[.bool true, .slice none 0 0, .slice none 0 0, .int .i64 0, .string ⟨#[]⟩]) ∧ Ses.RS w' b g c l (idx + 1) big chunk ∧ w.grownBy w' (some b) := by
  have HR := Lib.hid (fun W (hw : Ses.RS W b g c l idx big chunk) => getClr_none W b g c l idx big chunk hw hk hz)
  have HCn := Lib.hid (fun n c W => Tryd.bytes_Clone_nil n c W)
  have HH := Lib.hid (h.bl (Ses.W3_bl w 2 0 false false))
  have hb := xb_lt h.blk
  have hg0 := h.lt
  unfold Ses.W3 at HH
  clear h hz hk
  go_enter Tryd.func48, Tryd.ntmps48
  go_wp2_with (go_at_call 70; (with_reducible refine (HR.out _ HH.out).mono ?_); rintro e w1 ⟨rfl, hrs, hg⟩; have HRS := Lib.hid hrs; have HG := Lib.hid (Ses.W3_grown (kind := 2) (size := 0) (big := false) (comp := false) hb hg); have hk3 := Ses.G3_of (kind := 2) (size := 0) (big := false) (comp := false) hb hg; have x0 := xb_cell hk3.k0 0; have x1 := xb_cell hk3.k0 1; have x2 := xb_cell hk3.k0 2; have x3 := xb_cell hk3.k0 3; have y0 := xb_cell hk3.k2 0; have z0 := xb_cell hk3.k1 0; have fy0 := blk_free hk3.k2 0; have fz0 := blk_free hk3.k1 0; have y1 := xb_cell hk3.k2 1; have z1 := xb_cell hk3.k1 1; have fy1 := blk_free hk3.k2 1; have fz1 := blk_free hk3.k1 1; have y2 := xb_cell hk3.k2 2; have z2 := xb_cell hk3.k1 2; have fy2 := blk_free hk3.k2 2; have fz2 := blk_free hk3.k1 2; have y3 := xb_cell hk3.k2 3; have z3 := xb_cell hk3.k1 3; have fy3 := blk_free hk3.k2 3; have fz3 := blk_free hk3.k1 3; have y4 := xb_cell hk3.k2 4; have z4 := xb_cell hk3.k1 4; have fy4 := blk_free hk3.k2 4; have fz4 := blk_free hk3.k1 4; have K2 := Lib.hid hk3; simp only [List.getElem?_toArray, List.getElem?_cons_zero, List.getElem?_cons_succ] at x0 x1 x2 x3 y0 y1 y2 y3 y4 z0 z1 z2 z3 z4; clear hrs hg hk3)
  go_region_held3 (fun w' => w'.cell? ⟨w.heap.size + 1 + 1, 1, none⟩ = some (.slice none 0 0) ∧ w'.cell? ⟨w.heap.size + 1 + 1, 2, none⟩ = some (.slice none 0 0)) (first | assumption | (refine ⟨?_, ?_⟩ <;> go_simp <;> done)) (first | (go_at_call 17; (with_reducible refine (HCn.out _ _ _).mono ?_); rintro e w2 ⟨rfl, rfl⟩))
  go_wp2
  refine bodyPost_ret (results_cell_row rfl _ _ (w.heap.size + 1) 38 #[.bool true, .slice none 0 0, .slice none 0 0, .int .i64 0, .string ⟨#[]⟩] (0, 0) _ rfl ?_ Tryd.underlying38 rfl (by kernel_rfl)) rfl ?_
  · exact Ses.got_block (by omega) K2.out.k1 _ _ _ _ _ _ _ _ _
  · refine ⟨rfl, Ses.RS.bl ?_ (below_drew (Below.refl _ _)), World.grownBy.drew ?_⟩
    · iterate 9 refine Ses.RS.far ?_ _ (by omega) (by omega)
      exact HRS.out
    · iterate 9 refine grown_far ?_ _ (by omega)
      exact HG.out
set_option maxHeartbeats 1000000 in
set_option maxRecDepth 100000 in
/-- A fixed CLR that is none. -/
theorem got_fixed_none (w : World) (b g c : Nat) (l : List Int) (idx : Nat) (big : Bool) (chunk : Int) (h : Ses.RS w b g c l idx big chunk) (hk : idx < l.length) (hz : l.getD idx 0 = 0 ∨ l.getD idx 0 = 255 ∨ l.getD idx 0 = 253) :
    Calls Tryd.prog 48 #[.pointer (some ⟨b, 0, none⟩), .agg #[.int .i64 8, .int .i64 0, .bool false, .bool false]] w fun e w' => e = .returned (.agg #[.bool true, .slice none 0 0, .slice none 0 0, .int .i64 0, .string ⟨#[]⟩]) ∧ Ses.RS w' b g c l (idx + 1) big chunk ∧ w.grownBy w' (some b) := by
  have HR := Lib.hid (fun W (hw : Ses.RS W b g c l idx big chunk) => getFixed_none W b g c l idx big chunk hw hk hz)
  have HCn := Lib.hid (fun n c W => Tryd.bytes_Clone_nil n c W)
  have HH := Lib.hid (h.bl (Ses.W3_bl w 8 0 false false))
  have hb := xb_lt h.blk
  have hg0 := h.lt
  unfold Ses.W3 at HH
  clear h hz hk
  go_enter Tryd.func48, Tryd.ntmps48
  go_wp2_with (go_at_call 77; (with_reducible refine (HR.out _ HH.out).mono ?_); rintro e w1 ⟨rfl, hrs, hg⟩; have HRS := Lib.hid hrs; have HG := Lib.hid (Ses.W3_grown (kind := 8) (size := 0) (big := false) (comp := false) hb hg); have hk3 := Ses.G3_of (kind := 8) (size := 0) (big := false) (comp := false) hb hg; have x0 := xb_cell hk3.k0 0; have x1 := xb_cell hk3.k0 1; have x2 := xb_cell hk3.k0 2; have x3 := xb_cell hk3.k0 3; have y0 := xb_cell hk3.k2 0; have z0 := xb_cell hk3.k1 0; have fy0 := blk_free hk3.k2 0; have fz0 := blk_free hk3.k1 0; have y1 := xb_cell hk3.k2 1; have z1 := xb_cell hk3.k1 1; have fy1 := blk_free hk3.k2 1; have fz1 := blk_free hk3.k1 1; have y2 := xb_cell hk3.k2 2; have z2 := xb_cell hk3.k1 2; have fy2 := blk_free hk3.k2 2; have fz2 := blk_free hk3.k1 2; have y3 := xb_cell hk3.k2 3; have z3 := xb_cell hk3.k1 3; have fy3 := blk_free hk3.k2 3; have fz3 := blk_free hk3.k1 3; have y4 := xb_cell hk3.k2 4; have z4 := xb_cell hk3.k1 4; have fy4 := blk_free hk3.k2 4; have fz4 := blk_free hk3.k1 4; have K2 := Lib.hid hk3; simp only [List.getElem?_toArray, List.getElem?_cons_zero, List.getElem?_cons_succ] at x0 x1 x2 x3 y0 y1 y2 y3 y4 z0 z1 z2 z3 z4; clear hrs hg hk3)
  go_region_held3 (fun w' => w'.cell? ⟨w.heap.size + 1 + 1, 1, none⟩ = some (.slice none 0 0) ∧ w'.cell? ⟨w.heap.size + 1 + 1, 2, none⟩ = some (.slice none 0 0)) (first | assumption | (refine ⟨?_, ?_⟩ <;> go_simp <;> done)) (first | (go_at_call 17; (with_reducible refine (HCn.out _ _ _).mono ?_); rintro e w2 ⟨rfl, rfl⟩))
  go_wp2
  refine bodyPost_ret (results_cell_row rfl _ _ (w.heap.size + 1) 38 #[.bool true, .slice none 0 0, .slice none 0 0, .int .i64 0, .string ⟨#[]⟩] (0, 0) _ rfl ?_ Tryd.underlying38 rfl (by kernel_rfl)) rfl ?_
  · exact Ses.got_block (by omega) K2.out.k1 _ _ _ _ _ _ _ _ _
  · refine ⟨rfl, Ses.RS.bl ?_ (below_drew (Below.refl _ _)), World.grownBy.drew ?_⟩
    · iterate 9 refine Ses.RS.far ?_ _ (by omega) (by omega)
      exact HRS.out
    · iterate 9 refine grown_far ?_ _ (by omega)
      exact HG.out
end Go.Proofs.YtdnahdddkagfhaaDoor.X
/- A session that is made, and the input that is left. -/
namespace Go.Proofs.YtdnahdddkagfhaaDoor.X
open Go.RowKit Go.Proofs.YtdnahdddkagfhaaDoorW.PrintWords Go.Proofs.YtdnahdddkagfhaaDoorW.PrintMore
attribute [local go_sem] setCell_drewN alloc_drewN
set_option linter.unusedVariables false
set_option linter.unusedSimpArgs false
set_option maxHeartbeats 1000000 in
set_option maxRecDepth 100000 in
theorem newSession (v : Value) (w : World) (hv : ∃ A n c, v = .slice A n c) : Calls Tryd.prog 39 #[v] w fun e w' => e = .returned (.pointer (some ⟨w.heap.size, 0, none⟩)) ∧ w' = w.alloc (.cells #[v, .slice none 0 0, .int .i64 0, .int .i8 0, .int .i64 0, .bool false, .int .i64 64] 82) := by
  obtain ⟨A, n, c, rfl⟩ := hv
  go_enter Tryd.func39, Tryd.ntmps39
  go_wp2
  go_ret
  exact ⟨rfl, rfl⟩
set_option maxHeartbeats 2000000 in
set_option maxRecDepth 100000 in
/-- What is left of the input. -/
theorem rest_ok (w : World) (b g c : Nat) (l : List Int) (idx : Nat) (big : Bool) (chunk : Int) (h : Ses.RS w b g c l idx big chunk) (hk : idx ≤ l.length) :
    Calls Tryd.prog 49 #[.pointer (some ⟨b, 0, none⟩)] w fun e w' => e = .returned (.slice (if c = idx then some ⟨g, 0, none⟩ else some ⟨g, idx, none⟩) (l.length - idx) (c - idx)) ∧ w' = w.drew := by
  have c0 := h.c0
  have c4 := h.c4
  obtain ⟨hblk, hne, hcap, hcells, hmax, hlt⟩ := h
  clear hblk hcells
  generalize l.length = n at *
  have p0 : (0 : Int) ≤ (idx : Int) := by omega
  have p2 : (idx : Int) ≤ (n : Int) := by omega
  have p7 : (idx : Int) ≤ (c : Int) := by omega
  have p8 : (n : Int) ≤ (c : Int) := by omega
  by_cases q : c = idx
  · rw [if_pos q]
    subst q
    obtain rfl : c = n := by omega
    go_enter Tryd.func49, Tryd.ntmps49
    go_wp2
    go_region_held3 (fun w' => w'.cell? ⟨b, 0, none⟩ = some (.slice (some ⟨g, 0, none⟩) c c) ∧ w'.cell? ⟨b, 4, none⟩ = some (.int .i64 (c : Int))) (first | exact ⟨c0, c4⟩) (first | fail)
    go_wp2
    go_ret
    exact ⟨by rw [Nat.sub_self]; rfl, rfl⟩
  · rw [if_neg q]
    have q1 : (c = idx) = False := eq_false q
    go_enter Tryd.func49, Tryd.ntmps49
    go_wp2
    go_region_held3 (fun w' => w'.cell? ⟨b, 0, none⟩ = some (.slice (some ⟨g, 0, none⟩) n c) ∧ w'.cell? ⟨b, 4, none⟩ = some (.int .i64 (idx : Int))) (first | exact ⟨c0, c4⟩) (first | fail)
    go_wp2
    go_ret
    trivial
end Go.Proofs.YtdnahdddkagfhaaDoor.X
/- (*bytes.Buffer).Write, Bytes: a buffer in the cells q, q+1, q+2 of a block; what each call leaves, and that all other blocks but the buffer's row are as they were. -/
namespace Go.Proofs.YtdnahdddkagfhaaDoor.X
open Go.RowKit Go.Proofs.YtdnahdddkagfhaaDoorW.PrintWords Go.Proofs.YtdnahdddkagfhaaDoorW.PrintMore
attribute [local go_sem] setCell_drewN alloc_drewN
set_option linter.unusedVariables false

def RetLen (n : Nat) (w : World) (e : Ending) (w' : World) : Prop := e = .returned (.int .i64 n) ∧ Drawn0 w w'
set_option maxHeartbeats 400000 in
theorem bufLen (b q l c : Nat) (A : Option Addr) (w : World) (c0 : w.cell? ⟨b, q, none⟩ = some (.slice A l c)) (c1 : w.cell? ⟨b, q + 1, none⟩ = some (.int .i64 0)) (hl : l ≤ 9223372036854775807) :
    Calls Tryd.prog 86 #[.pointer (some ⟨b, q, none⟩)] w (RetLen l w) := by
  go_enter Tryd.func86, Tryd.ntmps86
  go_wp2
  go_quiet (fail)
  go_wp2
  go_ret
  exact ⟨ret_eq (by simp), ⟨_, rfl⟩⟩
set_option maxHeartbeats 400000 in
theorem bufRoom (b q l c n : Nat) (A : Option Addr) (w : World) (c0 : w.cell? ⟨b, q, none⟩ = some (.slice A l c)) (f0 : w.frozen? ⟨b, q, none⟩ = false) (hlc : l ≤ c) (hc : c ≤ 9223372036854775807) (hn : n ≤ c - l) :
    Calls Tryd.prog 80 #[.pointer (some ⟨b, q, none⟩), .int .i64 n] w fun e w' => e = .returned (.tuple #[.int .i64 l, .bool true]) ∧ w' = w.setCell ⟨b, q, none⟩ (.slice A (l + n) c) := by
  go_enter Tryd.func80, Tryd.ntmps80
  go_wp2
  go_ret2
  exact ⟨rfl, rfl⟩
set_option maxHeartbeats 400000 in
theorem bufNoRoom (b q l c n : Nat) (A : Option Addr) (w : World) (c0 : w.cell? ⟨b, q, none⟩ = some (.slice A l c)) (hlc : l ≤ c) (hc : c ≤ 9223372036854775807) (hn : c - l < n) (hn2 : n ≤ 9223372036854775807) :
    Calls Tryd.prog 80 #[.pointer (some ⟨b, q, none⟩), .int .i64 n] w fun e w' => e = .returned (.tuple #[.int .i64 0, .bool false]) ∧ w' = w := by
  go_enter Tryd.func80, Tryd.ntmps80
  go_wp2
  go_ret2
  exact ⟨rfl, rfl⟩

/-- Behind grow: a new row with room, which begins with what the old one held. -/
def RetGrow (b q : Nat) (T : TypeId) (cs : Array Value) (l n : Nat) (old : List Value) (w : World) (e : Ending) (w' : World) : Prop :=
  ∃ g cap cur, e = .returned (.int .i64 l) ∧ w'.heap[b]? = some (.cells (cs.setIfInBounds q (.slice (some ⟨g, 0, none⟩) (l + n) cap)) T (0, 0)) ∧ w'.heap[g]? = some (.cells cur 5 (0, 0)) ∧ cur.size = cap ∧ cap ≤ maxLen ∧ l + n ≤ cap ∧ cur.toList.take l = old ∧ w.heap.size ≤ g ∧ w.grownBy w' (some b)
theorem set_same {cs : Array Value} {i : Nat} {v : Value} (h : cs[i]? = some v) : cs.setIfInBounds i v = cs := by
  apply Array.ext_getElem?
  intro j
  by_cases hj : j = i
  · subst hj
    have := (Array.getElem?_eq_some_iff.1 h).1
    rw [Array.getElem?_setIfInBounds_self_of_lt this, h]
  · rw [Array.getElem?_setIfInBounds_ne (by omega)]
theorem set_twice (cs : Array Value) (i : Nat) (u v : Value) : (cs.setIfInBounds i u).setIfInBounds i v = cs.setIfInBounds i v := by
  apply Array.ext_getElem?
  intro j
  by_cases hj : j = i
  · subst hj
    by_cases hs : j < cs.size
    · rw [Array.getElem?_setIfInBounds_self_of_lt (by simpa using hs), Array.getElem?_setIfInBounds_self_of_lt hs]
    · rw [Array.getElem?_eq_none (by simp; omega), Array.getElem?_eq_none (by simp; omega)]
  · rw [Array.getElem?_setIfInBounds_ne (by omega), Array.getElem?_setIfInBounds_ne (by omega), Array.getElem?_setIfInBounds_ne (by omega)]
theorem set_swap (cs : Array Value) {i k : Nat} (h : i ≠ k) (u v : Value) : (cs.setIfInBounds i u).setIfInBounds k v = (cs.setIfInBounds k v).setIfInBounds i u := by
  apply Array.ext_getElem?
  intro j
  by_cases hj : j = i
  · subst hj
    rw [Array.getElem?_setIfInBounds_ne (by omega)]
    by_cases hs : j < cs.size
    · rw [Array.getElem?_setIfInBounds_self_of_lt hs, Array.getElem?_setIfInBounds_self_of_lt (by simpa using hs)]
    · rw [Array.getElem?_eq_none (by simp; omega), Array.getElem?_eq_none (by simp; omega)]
  · by_cases hk : j = k
    · subst hk
      by_cases hs : j < cs.size
      · rw [Array.getElem?_setIfInBounds_self_of_lt (by simpa using hs), Array.getElem?_setIfInBounds_ne (by omega), Array.getElem?_setIfInBounds_self_of_lt hs]
      · rw [Array.getElem?_eq_none (by simp; omega), Array.getElem?_eq_none (by simp; omega)]
    · rw [Array.getElem?_setIfInBounds_ne (by omega), Array.getElem?_setIfInBounds_ne (by omega), Array.getElem?_setIfInBounds_ne (by omega), Array.getElem?_setIfInBounds_ne (by omega)]

theorem grow_cells {cs : Array Value} {q : Nat} {a v : Value} (h1 : cs[q + 1]? = some (.int .i64 0)) : ((cs.setIfInBounds q a).setIfInBounds (q + 1) (.int .i64 0)).setIfInBounds q v = cs.setIfInBounds q v := by rw [set_swap cs (by omega) a _, set_same h1, set_twice]
set_option maxRecDepth 100000 in
set_option maxHeartbeats 2000000 in
theorem bufGrowRow (b q g l c n : Nat) (T : TypeId) (cs cur : Array Value) (w : World) (hb : w.heap[b]? = some (.cells cs T (0, 0))) (h0 : cs[q]? = some (.slice (some ⟨g, 0, none⟩) l c)) (h1 : cs[q + 1]? = some (.int .i64 0))
    (hg : w.heap[g]? = some (.cells cur 5 (0, 0))) (hcs : cur.size = c) (hlc : l ≤ c) (hc : c ≤ maxLen) (hn : 1 ≤ n) (hroom : c - l < n) (hlim : l + n ≤ 140737488355328) (h1c : ∀ v ∈ cur.toList.take l, v.oneCell' = true) :
    Calls Tryd.prog 81 #[.pointer (some ⟨b, q, none⟩), .int .i64 n] w (RetGrow b q T cs l n (cur.toList.take l) w) := by
  have hnil : ∀ W, (binOp .eql 22 (.slice (some ⟨g, 0, none⟩) l c) (.slice none 0 0)).run Tryd.prog W = .ok (.bool false) W := fun W => Lib.run_eql_slice_some_nil W _ _ _ Tryd.underlying22
  have c0 := (xb_cell hb q).trans h0
  have c1 := (xb_cell hb (q + 1)).trans h1
  have f0 := blk_free hb q
  have f1 := blk_free hb (q + 1)
  have hbs := xb_lt hb
  have GS : Hid (∀ W, Below w.heap.size w W → Calls Tryd.prog 88 #[.slice (some ⟨g, 0, none⟩) l c, .int .i64 n] W fun e w' => ∃ cap2 cells, e = .returned (.slice (some ⟨W.heap.size, 0, none⟩) l cap2) ∧ w'.heap[W.heap.size]? = some (.cells cells 5 (0, 0)) ∧ cells.size = cap2 ∧ cells.toList.take l = cur.toList.take l ∧ l + n ≤ cap2 ∧ cap2 ≤ maxLen ∧ Below W.heap.size W w') :=
    Lib.hid fun W hW => Tryd.bytes_growSlice_row g l c n cur W (blk_bl hg hW (xb_lt hg)) hcs hlc hn hlim (by omega) h1c
  have BL : Hid (Calls Tryd.prog 86 #[.pointer (some ⟨b, q, none⟩)] w (RetLen l w)) := Lib.hid (bufLen b q l c _ w c0 c1 (by unfold maxLen at hc; omega))
  have BN : Hid (∀ W, W.cell? ⟨b, q, none⟩ = some (.slice (some ⟨g, 0, none⟩) l c) → Calls Tryd.prog 80 #[.pointer (some ⟨b, q, none⟩), .int .i64 n] W fun e w' => e = .returned (.tuple #[.int .i64 0, .bool false]) ∧ w' = W) :=
    Lib.hid fun W d0 => bufNoRoom b q l c n _ W d0 hlc (by unfold maxLen at hc; omega) hroom (by omega)
  have HB := Lib.hid hb
  have H1 := Lib.hid h1
  have HW : Hid (∀ W, Below w.heap.size w W → W.cell? ⟨b, q, none⟩ = some (.slice (some ⟨g, 0, none⟩) l c) ∧ W.cell? ⟨b, q + 1, none⟩ = some (.int .i64 0) ∧ W.frozen? ⟨b, q, none⟩ = false ∧ W.frozen? ⟨b, q + 1, none⟩ = false) := Lib.hid fun W hW => ⟨bl_cell hW c0, bl_cell hW c1, (hW.frozen (p := ⟨b, q, none⟩) hbs).trans f0, (hW.frozen (p := ⟨b, q + 1, none⟩) hbs).trans f1⟩
  have hc' := hc
  unfold maxLen at hc'
  clear hb h0 h1 hg h1c
  have hwn : IntKind.i64.wrap (n : Int) = n := by rw [IntKind.wrap_i64]; omega
  obtain ⟨bz, hbz⟩ : ∃ z, ((l : Int) == 0) = z := ⟨_, rfl⟩
  cases bz
  all_goals
    go_enter Tryd.func81, Tryd.ntmps81
    go_wp2_with fail
    refine BL.out.mono ?_
    rintro e w1 ⟨rfl, hd⟩
    obtain ⟨d, rfl⟩ := hd.out
    clear hd
    go_wp2_with fail
    refine (BN.out _ (by exact c0)).mono ?_
    rintro e w2 ⟨rfl, rfl⟩
    have hcn : ¬ (n : Int) ≤ (c : Int) / 2 - (l : Int) := by omega
    have hcm : ¬ (9223372036854775807 : Int) - (c : Int) - (n : Int) < (c : Int) := by omega
    go_wp2_with fail
    clear hnil BN BL
    go_region_with (
      go_at_call 88
      refine (GS.out _ ?_).mono ?_
      exact bl_drewN w (d + 1)
      rintro e w2 ⟨cap2, cells, rfl, hN, hcsz, htk, hcap2, hcm2, hbel⟩
      have HWW := Lib.hid (bl_trans (bl_drewN w (d + 1)) hbel)
      obtain ⟨k0, k1, kf0, kf1⟩ := HW.out w2 HWW.out
      have HN := Lib.hid hN
      have HT := Lib.hid htk
      have HS := Lib.hid hcsz
      clear hN htk hcsz hbel)
    all_goals (
      go_wp2
      go_ret
      have hne : ¬ w.heap.size = b := by omega
      refine ⟨w.heap.size, cap2, cells, rfl, ?_, ?_, HS.out, hcm2, hcap2, HT.out, Nat.le_refl _, grown_set (grown_set (grown_set (grown_bl (grown_refl _ _) HWW.out)))⟩
      · rw [← grow_cells H1.out]
        exact xb_set (xb_set (xb_set (blk_bl HB.out HWW.out hbs) q _) (q + 1) _) q _
      · rw [blk_set_other hne, blk_set_other hne, blk_set_other hne]
        exact HN.out)
end Go.Proofs.YtdnahdddkagfhaaDoor.X
/- (*bytes.Buffer).Write onto a row, and Bytes. -/
namespace Go.Proofs.YtdnahdddkagfhaaDoor.X
open Go.RowKit Go.Proofs.YtdnahdddkagfhaaDoorW.PrintWords Go.Proofs.YtdnahdddkagfhaaDoorW.PrintMore
attribute [local go_sem] setCell_drewN alloc_drewN
set_option linter.unusedVariables false

theorem set_in {w : World} {b i j : Nat} {u : Value} (h : ¬ j = i) : (w.setCell ⟨b, i, none⟩ u).cell? ⟨b, j, none⟩ = w.cell? ⟨b, j, none⟩ := World.cell?_setCell_other _ _ _ _ (fun e => h (by injection e with _ e _; exact e.symm))
/-- All blocks but b and g are as they were. -/
structure Kp2 (w w' : World) (b g : Nat) : Prop where
  os : w'.os = w.os
  tape : w'.tape = w.tape
  output : w'.output = w.output
  size : w.heap.size ≤ w'.heap.size
  block : ∀ k, k < w.heap.size → k ≠ b → k ≠ g → w'.heap[k]? = w.heap[k]?
theorem Kp2.of {w w' : World} {b : Nat} (h : w.grownBy w' (some b)) (g : Nat) : Kp2 w w' b g := ⟨h.os, h.tape, h.output, h.size, fun k hk hb _ => h.block k hk (fun e => hb (by injection e))⟩
theorem Kp2.trans {a w w' : World} {b g : Nat} (h : Kp2 a w b g) (k : Kp2 w w' b g) : Kp2 a w' b g :=
  ⟨k.os.trans h.os, k.tape.trans h.tape, k.output.trans h.output, Nat.le_trans h.size k.size, fun i hi hb hg => (k.block i (Nat.lt_of_lt_of_le hi h.size) hb hg).trans (h.block i hi hb hg)⟩
theorem Kp2.setRow {a w : World} {b g g' : Nat} (h : Kp2 a w b g) (hg : g' = g ∨ a.heap.size ≤ g') (R : Array Value) : Kp2 a (w.setRow g' R) b g :=
  ⟨h.os, h.tape, h.output, by simpa using h.size, fun k hk hb hkg => (setRow_other w g' k R (by rcases hg with rfl | hg <;> omega)).trans (h.block k hk hb hkg)⟩
theorem Kp2.below {B : Nat} {a w w' : World} {b g : Nat} (h : Below B a w) (k : Kp2 w w' b g) (hB : B ≤ w.heap.size) (hb : B ≤ b) (hg : B ≤ g) : Below B a w' :=
  h.trans ⟨k.os, k.tape, k.output, k.size, fun i hi => k.block i (by omega) (by omega) (by omega)⟩

def RetRoom (b q : Nat) (T : TypeId) (cs : Array Value) (l : Nat) (v : Value) (w : World) (e : Ending) (w' : World) : Prop :=
  e = .returned (.tuple #[.int .i64 l, .bool true]) ∧ w'.heap[b]? = some (.cells (cs.setIfInBounds q v) T (0, 0)) ∧ w.grownBy w' (some b)
theorem bufRoomB (b q l c n : Nat) (T : TypeId) (cs : Array Value) (A : Option Addr) (w : World) (hb : w.heap[b]? = some (.cells cs T (0, 0))) (h0 : cs[q]? = some (.slice A l c)) (hlc : l ≤ c) (hc : c ≤ 9223372036854775807) (hn : n ≤ c - l) :
    Calls Tryd.prog 80 #[.pointer (some ⟨b, q, none⟩), .int .i64 n] w (RetRoom b q T cs l (.slice A (l + n) c) w) :=
  (bufRoom b q l c n A w ((xb_cell hb q).trans h0) (blk_free hb q) hlc hc hn).mono fun e w' ⟨he, hw⟩ => ⟨he, by rw [hw]; exact xb_set hb q _, by rw [hw]; exact grown_set (grown_refl _ _)⟩

/-- Behind a write: the buffer holds what it held and the bytes. -/
def RetWrite (b q g : Nat) (T : TypeId) (cs : Array Value) (l n : Nat) (all : List Value) (w : World) (e : Ending) (w' : World) : Prop :=
  ∃ g' cap cur, e = .returned (.tuple #[.int .i64 n, .nilIface]) ∧ w'.heap[b]? = some (.cells ((cs.setIfInBounds (q + 2) (.int .i8 0)).setIfInBounds q (.slice (some ⟨g', 0, none⟩) (l + n) cap)) T (0, 0)) ∧ w'.heap[g']? = some (.cells cur 5 (0, 0)) ∧ cur.size = cap ∧ cap ≤ maxLen ∧ l + n ≤ cap ∧ cur.toList.take (l + n) = all ∧ (g' = g ∨ w.heap.size ≤ g') ∧ Kp2 w w' b g
theorem nums_one (l : List Int) : ∀ v ∈ nums .u8 l, v.oneCell' = true := by
  intro v hv
  obtain ⟨x, _, rfl⟩ := List.mem_map.1 hv
  rfl
theorem splice_take (cur : Array Value) (l : Nat) (cs : List Value) (hl : l ≤ cur.size) : ((cur.toList.take l ++ cs ++ cur.toList.drop (l + cs.length)).toArray).toList.take (l + cs.length) = cur.toList.take l ++ cs := by
  have h : (cur.toList.take l ++ cs).length = l + cs.length := by simp; omega
  rw [List.toList_toArray, ← h, List.take_left]

set_option maxRecDepth 100000 in
set_option maxHeartbeats 1000000 in
theorem bufWriteRow0 (b q g l c : Nat) (T : TypeId) (cs cur : Array Value) (lr : Int) (A : Option Addr) (cp : Nat) (w : World) (hb : w.heap[b]? = some (.cells cs T (0, 0))) (h0 : cs[q]? = some (.slice (some ⟨g, 0, none⟩) l c)) (h2 : cs[q + 2]? = some (.int .i8 lr))
    (hg : w.heap[g]? = some (.cells cur 5 (0, 0))) (hgb : ¬ g = b) (hcs : cur.size = c) (hlc : l ≤ c) (hc : c ≤ maxLen) (all : List Value) (hall : cur.toList.take l = all) :
    Calls Tryd.prog 58 #[.pointer (some ⟨b, q, none⟩), .slice A 0 cp] w (RetWrite b q g T cs l 0 all w) := by
  have c2 := (xb_cell hb (q + 2)).trans h2
  have f2 := blk_free hb (q + 2)
  have hbs := xb_lt hb
  have hinfo : (Tryd.prog.info? 5).map (·.size) = some 1 := by kernel_rfl
  have hce : ∀ d dLen dCap W, (Builtin.copy_ #[22, 22] 3 #[.slice d dLen dCap, .slice A 0 cp]).run Tryd.prog W = .ok (goInt 0) W := fun d dLen dCap W => run_copy_none W 22 22 3 5 d A dLen dCap 0 cp Tryd.underlying22 hinfo (by simp)
  have hc' := hc
  unfold maxLen at hc'
  have BR : Hid (Calls Tryd.prog 80 #[.pointer (some ⟨b, q, none⟩), .int .i64 (0 : Nat)] (w.setCell ⟨b, q + 2, none⟩ (.int .i8 0)) (RetRoom b q T (cs.setIfInBounds (q + 2) (.int .i8 0)) l (.slice (some ⟨g, 0, none⟩) (l + 0) c) (w.setCell ⟨b, q + 2, none⟩ (.int .i8 0)))) :=
    Lib.hid (bufRoomB b q l c 0 T _ _ _ (xb_set hb (q + 2) _) (by rw [Array.getElem?_setIfInBounds_ne (by omega)]; exact h0) hlc (by omega) (by omega))
  have hg0 : w.grownBy (w.setCell ⟨b, q + 2, none⟩ (.int .i8 0)) (some b) := grown_set (grown_refl _ _)
  have HG0 := Lib.hid hg0
  have HGW := Lib.hid hg
  have HQ := Lib.hid (show (cs.setIfInBounds (q + 2) (.int .i8 0)).size = cs.size by simp)
  have hq : q < cs.size := by have := (Array.getElem?_eq_some_iff.1 h0).1; exact this
  clear hb h0 h2 hg hg0
  go_enter Tryd.func58, Tryd.ntmps58
  go_wp2_with fail
  refine BR.out.mono ?_
  rintro e w1 ⟨rfl, hb1, hgr⟩
  have d0 : w1.cell? ⟨b, q, none⟩ = some (.slice (some ⟨g, 0, none⟩) l c) := (xb_cell hb1 q).trans (Array.getElem?_setIfInBounds_self_of_lt (by rw [HQ.out]; exact hq))
  have hg1 : w1.heap[g]? = some (.cells cur 5 (0, 0)) := ((grown_trans HG0.out hgr).block g (xb_lt HGW.out) (fun e => hgb (by injection e))).trans HGW.out
  have HG := Lib.hid (grown_trans HG0.out hgr)
  have Hb1 := Lib.hid hb1
  have Hg1 := Lib.hid hg1
  clear hb1 hg1 hgr BR HG0 HGW HQ
  go_wp2
  all_goals
    go_ret2
    exact ⟨g, c, cur, by first | rfl | simp, Hb1.out, Hg1.out, hcs, hc, by omega, hall, .inl rfl, Kp2.of HG.out g⟩
set_option maxRecDepth 100000 in
set_option maxHeartbeats 1000000 in
theorem bufWriteRowFits (b q g l c : Nat) (T : TypeId) (cs cur : Array Value) (lr : Int) (a : Addr) (cp : Nat) (p : List Int) (w : World) (hb : w.heap[b]? = some (.cells cs T (0, 0))) (h0 : cs[q]? = some (.slice (some ⟨g, 0, none⟩) l c)) (h2 : cs[q + 2]? = some (.int .i8 lr))
    (hg : w.heap[g]? = some (.cells cur 5 (0, 0))) (hgb : ¬ g = b) (hcs : cur.size = c) (hlc : l ≤ c) (hc : c ≤ maxLen) (all : List Value) (hall : cur.toList.take l ++ nums .u8 p = all)
    (hp : 0 < p.length) (hsrc : ∀ j v, (nums .u8 p)[j]? = some v → w.cell? (a.add j) = some v) (hab : a.block ≠ b) (hfit : p.length ≤ c - l) :
    Calls Tryd.prog 58 #[.pointer (some ⟨b, q, none⟩), .slice (some a) p.length cp] w (RetWrite b q g T cs l p.length all w) := by
  have c2 := (xb_cell hb (q + 2)).trans h2
  have f2 := blk_free hb (q + 2)
  have hbs := xb_lt hb
  have hinfo : (Tryd.prog.info? 5).map (·.size) = some 1 := by kernel_rfl
  have hc' := hc
  unfold maxLen at hc'
  have hnl : (nums .u8 p).length = p.length := nums_length ..
  have BR : Hid (Calls Tryd.prog 80 #[.pointer (some ⟨b, q, none⟩), .int .i64 p.length] (w.setCell ⟨b, q + 2, none⟩ (.int .i8 0)) (RetRoom b q T (cs.setIfInBounds (q + 2) (.int .i8 0)) l (.slice (some ⟨g, 0, none⟩) (l + p.length) c) (w.setCell ⟨b, q + 2, none⟩ (.int .i8 0)))) :=
    Lib.hid (bufRoomB b q l c p.length T _ _ _ (xb_set hb (q + 2) _) (by rw [Array.getElem?_setIfInBounds_ne (by omega)]; exact h0) hlc (by omega) (by omega))
  have hg0 : w.grownBy (w.setCell ⟨b, q + 2, none⟩ (.int .i8 0)) (some b) := grown_set (grown_refl _ _)
  have HG0 := Lib.hid hg0
  have HGW := Lib.hid hg
  have HQ := Lib.hid (show (cs.setIfInBounds (q + 2) (.int .i8 0)).size = cs.size by simp)
  have hq : q < cs.size := by have := (Array.getElem?_eq_some_iff.1 h0).1; exact this
  have HSRC := Lib.hid hsrc
  have HALL := Lib.hid hall
  have HNL := Lib.hid hnl
  have HINFO := Lib.hid hinfo
  clear hb h0 h2 hg hg0 hsrc hall hnl hinfo
  obtain ⟨n, hn⟩ : ∃ n, n = p.length := ⟨_, rfl⟩
  have HN := Lib.hid hn
  rw [← hn] at hp hfit BR ⊢
  clear hn
  go_enter Tryd.func58, Tryd.ntmps58
  go_wp2_with fail
  refine BR.out.mono ?_
  rintro e w1 ⟨rfl, hb1, hgr⟩
  have hgrw := grown_trans HG0.out hgr
  have d0 : w1.cell? ⟨b, q, none⟩ = some (.slice (some ⟨g, 0, none⟩) (l + n) c) := (xb_cell hb1 q).trans (Array.getElem?_setIfInBounds_self_of_lt (by rw [HQ.out]; exact hq))
  have hg1 : w1.heap[g]? = some (.cells cur 5 (0, 0)) := (hgrw.block g (xb_lt HGW.out) (fun e => hgb (by injection e))).trans HGW.out
  have hcp := run_copy_row (P := Tryd.prog) w1 22 22 3 5 g l n (c - l) a n cp cur 5 (nums .u8 p) Tryd.underlying22 HINFO.out hg1 (by rw [HNL.out, HN.out]; exact (Nat.min_self _).symm) (fun j v hj => hgrw.cell (HSRC.out j v hj) (by rw [Lib.block_add]; exact fun e => hab (Option.some.inj e))) (by rw [HNL.out, ← HN.out]; omega) (nums_one p)
  have hst := (splice_take cur l (nums .u8 p) (by omega)).trans HALL.out
  have hsz : ((cur.toList.take l ++ nums .u8 p ++ cur.toList.drop (l + (nums .u8 p).length)).toArray).size = c := by
    simp only [List.size_toArray, List.length_append, List.length_take, List.length_drop, Array.length_toList]
    rw [HNL.out, ← HN.out]
    omega
  rw [HNL.out, ← HN.out] at hcp hst hsz
  generalize (cur.toList.take l ++ nums .u8 p ++ cur.toList.drop (l + n)).toArray = ROW at *
  have HG := Lib.hid hgrw
  have Hb1 := Lib.hid hb1
  have Hg1 := Lib.hid hg1
  have HST := Lib.hid hst
  have HSZ := Lib.hid hsz
  have hne : ¬ c = l := by omega
  clear hb1 hg1 hgr BR HG0 HGW HQ HSRC HALL HNL HINFO HN hst hsz hgrw
  go_wp2
  all_goals
    go_ret2
    exact ⟨g, c, ROW, by first | rfl | simp, (setRow_other w1 g b ROW (fun e => hgb e.symm)).trans Hb1.out, setRow_heap w1 g cur ROW _ _ Hg1.out, HSZ.out, hc, by omega, HST.out, .inl rfl, (Kp2.of HG.out g).setRow (.inl rfl) ROW⟩
set_option maxRecDepth 100000 in
set_option maxHeartbeats 1000000 in
theorem bufWriteRowGrows (b q g l c : Nat) (T : TypeId) (cs cur : Array Value) (lr : Int) (a : Addr) (cp : Nat) (p : List Int) (w : World) (hb : w.heap[b]? = some (.cells cs T (0, 0))) (h0 : cs[q]? = some (.slice (some ⟨g, 0, none⟩) l c)) (h2 : cs[q + 2]? = some (.int .i8 lr))
    (hg : w.heap[g]? = some (.cells cur 5 (0, 0))) (hgb : ¬ g = b) (hcs : cur.size = c) (hlc : l ≤ c) (hc : c ≤ maxLen) (all : List Value) (hall : cur.toList.take l ++ nums .u8 p = all)
    (hp : 0 < p.length) (hsrc : ∀ j v, (nums .u8 p)[j]? = some v → w.cell? (a.add j) = some v) (hab : a.block ≠ b) (hfit : c - l < p.length) (hlim : l + p.length ≤ 140737488355328) (h1 : cs[q + 1]? = some (.int .i64 0)) (h1c : ∀ v ∈ cur.toList.take l, v.oneCell' = true) :
    Calls Tryd.prog 58 #[.pointer (some ⟨b, q, none⟩), .slice (some a) p.length cp] w (RetWrite b q g T cs l p.length all w) := by
  have c2 := (xb_cell hb (q + 2)).trans h2
  have f2 := blk_free hb (q + 2)
  have hbs := xb_lt hb
  have hinfo : (Tryd.prog.info? 5).map (·.size) = some 1 := by kernel_rfl
  have hc' := hc
  unfold maxLen at hc'
  have hnl : (nums .u8 p).length = p.length := nums_length ..
  have BR : Hid (Calls Tryd.prog 80 #[.pointer (some ⟨b, q, none⟩), .int .i64 p.length] (w.setCell ⟨b, q + 2, none⟩ (.int .i8 0)) fun e w' => e = .returned (.tuple #[.int .i64 0, .bool false]) ∧ w' = w.setCell ⟨b, q + 2, none⟩ (.int .i8 0)) :=
    Lib.hid (bufNoRoom b q l c p.length _ _ ((set_in (by omega)).trans ((xb_cell hb q).trans h0)) hlc (by omega) hfit (by omega))
  have BG : Hid (Calls Tryd.prog 81 #[.pointer (some ⟨b, q, none⟩), .int .i64 p.length] (w.setCell ⟨b, q + 2, none⟩ (.int .i8 0)) (RetGrow b q T (cs.setIfInBounds (q + 2) (.int .i8 0)) l p.length (cur.toList.take l) (w.setCell ⟨b, q + 2, none⟩ (.int .i8 0)))) :=
    Lib.hid (bufGrowRow b q g l c p.length T _ cur _ (xb_set hb (q + 2) _) (by rw [Array.getElem?_setIfInBounds_ne (by omega)]; exact h0) (by rw [Array.getElem?_setIfInBounds_ne (by omega)]; exact h1) ((blk_set_other hgb).trans hg) hcs hlc hc (by omega) hfit hlim h1c)
  have hg0 : w.grownBy (w.setCell ⟨b, q + 2, none⟩ (.int .i8 0)) (some b) := grown_set (grown_refl _ _)
  have HG0 := Lib.hid hg0
  have HGW := Lib.hid hg
  have HQ := Lib.hid (show (cs.setIfInBounds (q + 2) (.int .i8 0)).size = cs.size by simp)
  have hq : q < cs.size := by have := (Array.getElem?_eq_some_iff.1 h0).1; exact this
  have HSRC := Lib.hid hsrc
  have HALL := Lib.hid hall
  have HNL := Lib.hid hnl
  have HINFO := Lib.hid hinfo
  clear hb h0 h1 h2 hg hg0 hsrc hall hnl hinfo h1c
  obtain ⟨n, hn⟩ : ∃ n, n = p.length := ⟨_, rfl⟩
  have HN := Lib.hid hn
  rw [← hn] at hp hfit BR BG hlim ⊢
  clear hn
  go_enter Tryd.func58, Tryd.ntmps58
  go_wp2_with fail
  refine BR.out.mono ?_
  rintro e w0 ⟨rfl, rfl⟩
  go_wp2_with fail
  refine BG.out.mono ?_
  rintro e w1 ⟨g2, c3, cur2, rfl, hb1, hg1, hs2, hm2, hl2, ht2, hn2, hgr⟩
  have hn2' : w.heap.size ≤ g2 := by simpa [World.setCell] using hn2
  have hgrw := grown_trans HG0.out hgr
  have hgb2 : ¬ g2 = b := by omega
  have d0 : w1.cell? ⟨b, q, none⟩ = some (.slice (some ⟨g2, 0, none⟩) (l + n) c3) := (xb_cell hb1 q).trans (Array.getElem?_setIfInBounds_self_of_lt (by rw [HQ.out]; exact hq))
  have hcp := run_copy_row (P := Tryd.prog) w1 22 22 3 5 g2 l n (c3 - l) a n cp cur2 5 (nums .u8 p) Tryd.underlying22 HINFO.out hg1 (by rw [HNL.out, HN.out]; exact (Nat.min_self _).symm) (fun j v hj => hgrw.cell (HSRC.out j v hj) (by rw [Lib.block_add]; exact fun e => hab (Option.some.inj e))) (by rw [HNL.out, ← HN.out]; omega) (nums_one p)
  have hst := (splice_take cur2 l (nums .u8 p) (by omega)).trans ((congrArg (· ++ nums .u8 p) ht2).trans HALL.out)
  have hsz : ((cur2.toList.take l ++ nums .u8 p ++ cur2.toList.drop (l + (nums .u8 p).length)).toArray).size = c3 := by
    simp only [List.size_toArray, List.length_append, List.length_take, List.length_drop, Array.length_toList]
    rw [HNL.out, ← HN.out]
    omega
  rw [HNL.out, ← HN.out] at hcp hst hsz
  generalize (cur2.toList.take l ++ nums .u8 p ++ cur2.toList.drop (l + n)).toArray = ROW at *
  have HG := Lib.hid hgrw
  have Hb1 := Lib.hid hb1
  have Hg1 := Lib.hid hg1
  have HST := Lib.hid hst
  have HSZ := Lib.hid hsz
  have hne : ¬ c3 = l := by omega
  have hm2' := hm2
  unfold maxLen at hm2'
  clear hb1 hg1 hgr BR BG HG0 HGW HQ HSRC HALL HNL HINFO HN hst hsz hgrw ht2 hs2
  go_wp2
  all_goals
    go_ret2
    exact ⟨g2, c3, ROW, by first | rfl | simp, (setRow_other w1 g2 b ROW (fun e => hgb2 e.symm)).trans Hb1.out, setRow_heap w1 g2 cur2 ROW _ _ Hg1.out, HSZ.out, hm2, hl2, HST.out, .inr hn2', (Kp2.of HG.out g).setRow (.inr hn2') ROW⟩

/-- Write onto a row, whatever the bytes. -/
theorem bufWriteRow (b q g l c : Nat) (T : TypeId) (cs cur : Array Value) (lr : Int) (A : Option Addr) (cp : Nat) (p : List Int) (w : World) (hb : w.heap[b]? = some (.cells cs T (0, 0))) (h0 : cs[q]? = some (.slice (some ⟨g, 0, none⟩) l c)) (h1 : cs[q + 1]? = some (.int .i64 0)) (h2 : cs[q + 2]? = some (.int .i8 lr))
    (hg : w.heap[g]? = some (.cells cur 5 (0, 0))) (hgb : ¬ g = b) (hcs : cur.size = c) (hlc : l ≤ c) (hc : c ≤ maxLen) (old : List Int) (hold : cur.toList.take l = nums .u8 old)
    (hC : Kd.C (Kd.int .u8) w A p.length p) (hab : ∀ a, A = some a → a.block ≠ b) (hlim : l + p.length ≤ 140737488355328) :
    Calls Tryd.prog 58 #[.pointer (some ⟨b, q, none⟩), .slice A p.length cp] w (RetWrite b q g T cs l p.length (nums .u8 (old ++ p)) w) := by
  by_cases hp : 0 < p.length
  · obtain ⟨g', o', rfl, _, hcell⟩ := C_base hC hp
    have hsrc : ∀ j v, (nums .u8 p)[j]? = some v → w.cell? ((⟨g', o', none⟩ : Addr).add j) = some v := by
      intro j v hj
      have hjl : j < p.length := by have := (List.getElem?_eq_some_iff.1 hj).1; rwa [nums_length] at this
      have hv : v = .int .u8 (p.getD j 0) := by
        simp only [nums, List.getElem?_map, List.getElem?_eq_getElem hjl, Option.map_some, Option.some.injEq] at hj
        rw [← hj, List.getD_eq_getElem?_getD, List.getElem?_eq_getElem hjl]; rfl
      rw [Lib.addr_add, hv]
      exact hcell j hjl
    have hall : cur.toList.take l ++ nums .u8 p = nums .u8 (old ++ p) := by rw [hold, nums_append]
    by_cases hfit : p.length ≤ c - l
    · exact bufWriteRowFits b q g l c T cs cur lr _ cp p w hb h0 h2 hg hgb hcs hlc hc _ hall hp hsrc (hab _ rfl) hfit
    · exact bufWriteRowGrows b q g l c T cs cur lr _ cp p w hb h0 h2 hg hgb hcs hlc hc _ hall hp hsrc (hab _ rfl) (by omega) hlim h1 (by rw [hold]; exact nums_one old)
  · have hz : p = [] := List.eq_nil_of_length_eq_zero (by omega)
    subst hz
    rw [List.append_nil]
    exact bufWriteRow0 b q g l c T cs cur lr A cp w hb h0 h2 hg hgb hcs hlc hc _ hold

def RetBytes (v : Value) (w : World) (e : Ending) (w' : World) : Prop := e = .returned v ∧ Drawn0 w w'
set_option maxHeartbeats 400000 in
theorem bufBytes (b q g l c : Nat) (w : World) (c0 : w.cell? ⟨b, q, none⟩ = some (.slice (some ⟨g, 0, none⟩) l c)) (c1 : w.cell? ⟨b, q + 1, none⟩ = some (.int .i64 0)) (hlc : l ≤ c) (hc : c ≤ 9223372036854775807) :
    Calls Tryd.prog 46 #[.pointer (some ⟨b, q, none⟩)] w (RetBytes (.slice (some ⟨g, 0, none⟩) l c) w) := by
  have q0 : (0 : Int) ≤ (l : Int) := by omega
  have q1 : (0 : Int) ≤ (c : Int) := by omega
  go_enter Tryd.func46, Tryd.ntmps46
  go_wp2
  go_quiet (fail)
  go_wp2
  go_ret
  exact ⟨ret_eq (by first | rfl | simp), ⟨_, rfl⟩⟩
end Go.Proofs.YtdnahdddkagfhaaDoor.X
/- A session's writer: the first byte of an empty buffer, a short CLR, impl.SessionPut of one. -/
namespace Go.Proofs.YtdnahdddkagfhaaDoor.X
open Go.RowKit Go.Proofs.YtdnahdddkagfhaaDoorW.PrintWords Go.Proofs.YtdnahdddkagfhaaDoorW.PrintMore
attribute [local go_sem] setCell_drewN alloc_drewN
set_option linter.unusedVariables false
set_option linter.unusedSimpArgs false
theorem arr_self {cs : Array Value} {q : Nat} {v : Value} (h : q < cs.size) : (cs.setIfInBounds q v)[q]? = some v := by simp [h]
theorem arr_first {M : Array Value} (h : M.size = 64) : ∃ u, M[0]? = some u := ⟨M[0], Array.getElem?_eq_getElem (by omega)⟩
set_option maxHeartbeats 2000000 in
set_option maxRecDepth 100000 in
/-- An empty buffer grows: a new row of 64 bytes. -/
theorem grow_nil (b q : Nat) (T : TypeId) (cs : Array Value) (w : World) (hbk : w.heap[b]? = some (.cells cs T (0, 0))) (h0 : cs[q]? = some (.slice none 0 0)) (h1 : cs[q + 1]? = some (.int .i64 0)) :
    Calls Tryd.prog 81 #[.pointer (some ⟨b, q, none⟩), .int .i64 1] w fun e w' => e = .returned (.int .i64 0) ∧ ∃ (g : Nat) (M : Array Value), M.size = 64 ∧ w'.heap[b]? = some (.cells (cs.setIfInBounds q (.slice (some ⟨g, 0, none⟩) 1 64)) T (0, 0)) ∧ w'.heap[g]? = some (.cells M 5 (0, 0)) ∧ w.heap.size ≤ g ∧ w.grownBy w' (some b) := by
  have hb := xb_lt hbk
  have c0 := (xb_cell hbk q).trans h0
  have c1 := (xb_cell hbk (q + 1)).trans h1
  have f0 := blk_free hbk q
  have HBk := Lib.hid hbk
  clear hbk h0 h1
  have hi5 : (Tryd.prog.info? 5).map (fun i => (i.zero, i.size, i.bytes)) = some (some (.int .u8 0), 1, 1) := by kernel_rfl
  obtain ⟨i0, hi, hz0, hz1, hz2⟩ := info_parts hi5
  obtain ⟨M, hM⟩ : ∃ M, M = madeCells (Value.int .u8 0).cells ((64 : Int).toNat * i0.size) := ⟨_, rfl⟩
  have hMs : M.size = 64 := by rw [hM, size_madeCells, hz1]; rfl
  have hmk : ∀ W : World, (Instr.makeSlice 22 (.int .i64 1) (.int .i64 64)).run Tryd.prog W = .ok (.slice (some ⟨W.heap.size, 0, none⟩) 1 64) (W.alloc (.cells M 5)) := fun W => by
    have h := run_makeSlice (P := Tryd.prog) W 22 5 i0 (.int .u8 0) Tryd.underlying22 hi hz0 .i64 .i64 1 64 (by omega) (by omega) (by rw [hz1]; decide) (by rw [hz2]; decide) (by decide)
    rw [← hM] at h
    simpa using h
  clear hM
  have HL := Lib.hid (fun W h0 h1 => bufLen b q 0 0 none W h0 h1 (by omega))
  have HT : Hid (∀ W : World, W.cell? ⟨b, q, none⟩ = some (.slice none 0 0) → Calls Tryd.prog 80 #[.pointer (some ⟨b, q, none⟩), .int .i64 1] W fun e w' => e = .returned (.tuple #[.int .i64 0, .bool false]) ∧ w' = W) := Lib.hid (fun W h0 => Tryd.Buffer_tryGrow_none_at b q none 0 0 1 W h0 (Nat.le_refl _) (by unfold maxLen; omega) (by omega))
  have hq : ∀ W : World, (binOp .eql 22 (.slice none 0 0) (.slice none 0 0)).run Tryd.prog W = .ok (.bool true) W := fun W => Lib.run_eql_slice_nil_nil W 0 0 Tryd.underlying22
  have c0a : ∀ n o, ((w.drewN n).alloc o).cell? ⟨b, q, none⟩ = some (.slice none 0 0) := fun n o => cell_alloc o c0
  have f0a : ∀ n o, ((w.drewN n).alloc o).frozen? ⟨b, q, none⟩ = false := fun n o => (World.frozen?_of_block (a := ⟨b, q, none⟩) (Below.heap_alloc (w.drewN n) o b hb)).trans f0
  have HM := Lib.hid hMs
  clear hi5 hi hz0 hz1 hz2
  go_enter Tryd.func81, Tryd.ntmps81
  go_wp2_with (first | (go_at_call 86; (with_reducible refine (HL.out _ c0 c1).mono ?_); rintro e w1 ⟨rfl, n1, rfl⟩) | (go_at_call 80; (with_reducible refine (HT.out _ ?h0).mono ?_); (case h0 => exact c0); rintro e w2 ⟨rfl, rfl⟩))
  go_ret
  refine ⟨rfl, w.heap.size, M, HM.out, ?_, ?_, Nat.le_refl _, ?_⟩
  · exact xb_alloc (xb_set HBk.out q _)
  · have hx := xb_new (w.setCell ⟨b, q, none⟩ (.slice (some ⟨w.heap.size, 0, none⟩) 1 64)) (.cells M 5)
    rw [World.size_setCell] at hx
    exact hx
  · exact grown_bl (grown_alloc (grown_set (grown_refl w (some b))) _) (bl_drewN _ _)
set_option maxHeartbeats 2000000 in
set_option maxRecDepth 100000 in
/-- The first byte of an empty buffer. -/
theorem writeByte_nil (b q : Nat) (T : TypeId) (cs : Array Value) (lr : Int) (w : World) (x : Int) (hbk : w.heap[b]? = some (.cells cs T (0, 0))) (h0 : cs[q]? = some (.slice none 0 0)) (h1 : cs[q + 1]? = some (.int .i64 0)) (h2 : cs[q + 2]? = some (.int .i8 lr)) :
    Calls Tryd.prog 59 #[.pointer (some ⟨b, q, none⟩), .int .u8 x] w fun e w' => ∃ g cur, e = .returned .nilIface ∧ w'.heap[b]? = some (.cells ((cs.setIfInBounds (q + 2) (.int .i8 0)).setIfInBounds q (.slice (some ⟨g, 0, none⟩) 1 64)) T (0, 0)) ∧ w'.heap[g]? = some (.cells cur 5 (0, 0)) ∧ cur.size = 64 ∧ cur[0]? = some (.int .u8 x) ∧ w.heap.size ≤ g ∧ g ≠ b ∧ w.grownBy w' (some b) := by
  have hb := xb_lt hbk
  have c2 := (xb_cell hbk (q + 2)).trans h2
  have f2 := blk_free hbk (q + 2)
  have k0 : (w.setCell ⟨b, q + 2, none⟩ (.int .i8 0)).cell? ⟨b, q, none⟩ = some (.slice none 0 0) := (set_in (by omega)).trans ((xb_cell hbk q).trans h0)
  have k1 : (w.setCell ⟨b, q + 2, none⟩ (.int .i8 0)).cell? ⟨b, q + 1, none⟩ = some (.int .i64 0) := (set_in (by omega)).trans ((xb_cell hbk (q + 1)).trans h1)
  have HK := Lib.hid (xb_set hbk (q + 2) (.int .i8 0))
  have HT : Hid (Calls Tryd.prog 80 #[.pointer (some ⟨b, q, none⟩), .int .i64 1] (w.setCell ⟨b, q + 2, none⟩ (.int .i8 0)) fun e w' => e = .returned (.tuple #[.int .i64 0, .bool false]) ∧ w' = w.setCell ⟨b, q + 2, none⟩ (.int .i8 0)) := Lib.hid (Tryd.Buffer_tryGrow_none_at b q none 0 0 1 _ k0 (Nat.le_refl _) (by unfold maxLen; omega) (by omega))
  have HGr := Lib.hid (grow_nil b q T (cs.setIfInBounds (q + 2) (.int .i8 0)) (w.setCell ⟨b, q + 2, none⟩ (.int .i8 0)) HK.out (by rw [Array.getElem?_setIfInBounds_ne (by omega)]; exact h0) (by rw [Array.getElem?_setIfInBounds_ne (by omega)]; exact h1))
  have hqs : q < (cs.setIfInBounds (q + 2) (.int .i8 0)).size := by
    have := (Array.getElem?_eq_some_iff.1 h0).1
    simpa using this
  clear k0 k1
  go_enter Tryd.func59, Tryd.ntmps59
  go_wp2_with (first | (go_at_call 80; (with_reducible refine HT.out.mono ?_); rintro e w1 ⟨rfl, rfl⟩) | (go_at_call 81; (with_reducible refine HGr.out.mono ?_); rintro e w2 ⟨rfl, g, M, hM, hb2, hg2, hgs, hgr⟩; (rw [World.size_setCell] at hgs); (have hgb : ¬ g = b := by omega); have cq := (xb_cell hb2 q).trans (arr_self hqs); obtain ⟨u0, hu0⟩ := arr_first hM; have cg := (xb_cell hg2 0).trans hu0; have fg := blk_free hg2 0; have HB2 := Lib.hid hb2; have HG2 := Lib.hid hg2; have HGr2 := Lib.hid hgr; have HM := Lib.hid hM; clear hb2 hg2 hgr))
  go_ret
  refine ⟨g, M.setIfInBounds 0 (.int .u8 x), rfl, (blk_set_other (by omega)).trans HB2.out, xb_set HG2.out 0 _, by simpa using HM.out, arr_self (by have := HM.out; omega), hgs, hgb, grown_far (grown_trans (grown_set (grown_refl w (some b))) HGr2.out) _ hgs⟩
theorem grown_kp2 {a w w' : World} {b g : Nat} (h : a.grownBy w (some b)) (k : Kp2 w w' b g) (hg : a.heap.size ≤ g) : a.grownBy w' (some b) :=
  ⟨k.os.trans h.os, k.tape.trans h.tape, k.output.trans h.output, Nat.le_trans h.size k.size, fun i hi hr => (k.block i (Nat.lt_of_lt_of_le hi h.size) (fun e => hr (by rw [e])) (by omega)).trans (h.block i hi hr)⟩
theorem take_one {cur : Array Value} {u : Value} (h : cur[0]? = some u) : cur.toList.take 1 = [u] := by
  have h' : cur.toList[0]? = some u := by rw [Array.getElem?_toList]; exact h
  cases hc : cur.toList with
  | nil => rw [hc] at h'; simp at h'
  | cons a l => rw [hc] at h'; simp at h'; rw [h']; rfl
theorem write_two (b g cp : Nat) (cs cur : Array Value) (x y : Int) (a : Addr) (w1 : World) (hb1 : w1.heap[b]? = some (.cells ((cs.setIfInBounds (1 + 2) (.int .i8 0)).setIfInBounds 1 (.slice (some ⟨g, 0, none⟩) 1 64)) 82 (0, 0))) (hsz : 3 < cs.size) (hg1 : w1.heap[g]? = some (.cells cur 5 (0, 0))) (hgb : g ≠ b) (hcu : cur.size = 64) (hc0 : cur[0]? = some (.int .u8 2))
    (hsrc : ∀ j v, (nums .u8 [x, y])[j]? = some v → w1.cell? (a.add j) = some v) (hab : a.block ≠ b) :
    Calls Tryd.prog 58 #[.pointer (some ⟨b, 1, none⟩), .slice (some a) 2 cp] w1 (RetWrite b 1 g 82 ((cs.setIfInBounds (1 + 2) (.int .i8 0)).setIfInBounds 1 (.slice (some ⟨g, 0, none⟩) 1 64)) 1 2 (nums .u8 [2, x, y]) w1) := by
  have h0 : ((cs.setIfInBounds (1 + 2) (.int .i8 0)).setIfInBounds 1 (.slice (some ⟨g, 0, none⟩) 1 64))[1]? = some (.slice (some ⟨g, 0, none⟩) 1 64) := arr_self (by rw [Array.size_setIfInBounds]; omega)
  have h2 : ((cs.setIfInBounds (1 + 2) (.int .i8 0)).setIfInBounds 1 (.slice (some ⟨g, 0, none⟩) 1 64))[1 + 2]? = some (.int .i8 0) := by
    rw [Array.getElem?_setIfInBounds_ne (by omega)]
    exact arr_self hsz
  exact bufWriteRowFits b 1 g 1 64 82 _ cur 0 a cp [x, y] w1 hb1 h0 h2 hg1 hgb hcu (by omega) (by unfold maxLen; omega) (nums .u8 [2, x, y]) (by rw [take_one hc0]; rfl) (by simp) hsrc hab (by simp)
set_option maxHeartbeats 2000000 in
set_option maxRecDepth 100000 in
/-- The CLR of two bytes behind nothing. -/
theorem putClr_two (b : Nat) (cs : Array Value) (lr : Int) (w : World) (x y : Int) (a : Addr) (cp : Nat) (hbk : w.heap[b]? = some (.cells cs 82 (0, 0))) (h0 : cs[1]? = some (.slice none 0 0)) (h1 : cs[2]? = some (.int .i64 0)) (h2 : cs[3]? = some (.int .i8 lr))
    (hsrc : ∀ j v, (nums .u8 [x, y])[j]? = some v → w.cell? (a.add j) = some v) (hab : a.block ≠ b) (hal : a.block < w.heap.size) :
    Calls Tryd.prog 41 #[.pointer (some ⟨b, 0, none⟩), .slice (some a) 2 cp] w fun e w' => ∃ g cap cur cs', e = .returned (.tuple #[]) ∧ w'.heap[b]? = some (.cells cs' 82 (0, 0)) ∧ cs'[1]? = some (.slice (some ⟨g, 0, none⟩) 3 cap) ∧ cs'[2]? = some (.int .i64 0) ∧ w'.heap[g]? = some (.cells cur 5 (0, 0)) ∧ 3 ≤ cap ∧ cap ≤ maxLen ∧ cur.size = cap ∧ cur.toList.take 3 = nums .u8 [2, x, y] ∧ g ≠ b ∧ w.grownBy w' (some b) := by
  have HW := Lib.hid (writeByte_nil b 1 82 cs lr w 2 hbk h0 h1 h2)
  have hcs : 3 < cs.size := (Array.getElem?_eq_some_iff.1 h2).1
  have HH1 := Lib.hid h1
  have hbl := xb_lt hbk
  have HSrc : Hid (∀ W : World, w.grownBy W (some b) → ∀ j v, (nums .u8 [x, y])[j]? = some v → W.cell? (a.add j) = some v) := Lib.hid (fun W hW j v hv => by
    have hbk : (a.add j).block = a.block := by unfold Addr.add; split <;> rfl
    have e := hW.block a.block hal (fun e => hab (Option.some.inj e))
    rw [← hbk] at e
    exact (World.cell?_of_block (a := a.add j) e).trans (hsrc j v hv))
  clear hbk h0 h1 h2 hsrc
  go_enter Tryd.func41, Tryd.ntmps41
  go_wp2_with (first | (go_at_call 59; (with_reducible refine HW.out.mono ?_); rintro e w1 ⟨g, cur, rfl, hb1, hg1, hcu, hc0, hgs, hgb, hgr⟩; (have hwr := write_two b g cp cs cur x y a w1 hb1 hcs hg1 hgb hcu hc0 (HSrc.out _ hgr) hab); have HWr := Lib.hid hwr; have HGr := Lib.hid hgr; clear hwr hb1 hg1 hgr) | (go_at_call 58; (with_reducible refine HWr.out.mono ?_); rintro e w2 ⟨g', cap, cur', rfl, hb2, hg2, hcu2, hcm, hlc, hta, hgo, hkp⟩))
  go_end0
  have hz := HGr.out.size
  refine ⟨g', cap, cur', _, rfl, hb2, arr_self (by simp only [Array.size_setIfInBounds]; omega), ?_, hg2, hlc, hcm, hcu2, hta, ?_, grown_kp2 HGr.out hkp hgs⟩
  · rw [Array.getElem?_setIfInBounds_ne (by omega), Array.getElem?_setIfInBounds_ne (by omega), Array.getElem?_setIfInBounds_ne (by omega), Array.getElem?_setIfInBounds_ne (by omega)]
    exact HH1.out
  · rcases hgo with rfl | hgo
    · exact hgb
    · omega
set_option maxHeartbeats 1000000 in
set_option maxRecDepth 100000 in
theorem output_ok (b g cap : Nat) (w : World) (c0 : w.cell? ⟨b, 1, none⟩ = some (.slice (some ⟨g, 0, none⟩) 3 cap)) (c1 : w.cell? ⟨b, 2, none⟩ = some (.int .i64 0)) (hlc : 3 ≤ cap) (hc : cap ≤ 9223372036854775807) :
    Calls Tryd.prog 47 #[.pointer (some ⟨b, 0, none⟩)] w fun e w' => e = .returned (.slice (some ⟨g, 0, none⟩) 3 cap) ∧ ∃ n, w' = w.drewN n := by
  have HB := Lib.hid (bufBytes b 1 g 3 cap w c0 c1 hlc hc)
  go_enter Tryd.func47, Tryd.ntmps47
  go_wp2_with (go_at_call 46; (with_reducible refine HB.out.mono ?_); rintro e w1 ⟨rfl, n1, rfl⟩)
  go_ret
  exact ⟨rfl, n1, rfl⟩
end Go.Proofs.YtdnahdddkagfhaaDoor.X
/- A buffer that is written, in a block of more cells: WriteByte and Write, whatever it holds. -/
namespace Go.Proofs.YtdnahdddkagfhaaDoor.X
open Go.RowKit Go.Proofs.YtdnahdddkagfhaaDoorW.PrintWords Go.Proofs.YtdnahdddkagfhaaDoorW.PrintMore
attribute [local go_sem] setCell_drewN alloc_drewN
set_option linter.unusedVariables false
set_option linter.unusedSimpArgs false
set_option maxHeartbeats 2000000 in
set_option maxRecDepth 100000 in
/-- An empty buffer grows by up to 64 bytes: a new row of 64 bytes. -/
theorem grow_nil_small (b q n : Nat) (T : TypeId) (cs : Array Value) (w : World) (hbk : w.heap[b]? = some (.cells cs T (0, 0))) (h0 : cs[q]? = some (.slice none 0 0)) (h1 : cs[q + 1]? = some (.int .i64 0)) (hn : 1 ≤ n) (h64 : n ≤ 64) :
    Calls Tryd.prog 81 #[.pointer (some ⟨b, q, none⟩), .int .i64 n] w (RetGrow b q T cs 0 n [] w) := by
  have hb := xb_lt hbk
  have c0 := (xb_cell hbk q).trans h0
  have c1 := (xb_cell hbk (q + 1)).trans h1
  have f0 := blk_free hbk q
  have f1 := blk_free hbk (q + 1)
  have HBk := Lib.hid hbk
  clear hbk h0 h1
  have hi5 : (Tryd.prog.info? 5).map (fun i => (i.zero, i.size, i.bytes)) = some (some (.int .u8 0), 1, 1) := by kernel_rfl
  obtain ⟨i0, hi, hz0, hz1, hz2⟩ := info_parts hi5
  obtain ⟨M, hM⟩ : ∃ M, M = madeCells (Value.int .u8 0).cells ((64 : Int).toNat * i0.size) := ⟨_, rfl⟩
  have hMs : M.size = 64 := by rw [hM, size_madeCells, hz1]; rfl
  have hmk : ∀ W : World, (Instr.makeSlice 22 (.int .i64 n) (.int .i64 64)).run Tryd.prog W = .ok (.slice (some ⟨W.heap.size, 0, none⟩) n 64) (W.alloc (.cells M 5)) := fun W => by
    have h := run_makeSlice (P := Tryd.prog) W 22 5 i0 (.int .u8 0) Tryd.underlying22 hi hz0 .i64 .i64 n 64 (by omega) (by omega) (by rw [hz1]; decide) (by rw [hz2]; decide) (by decide)
    rw [← hM] at h
    simpa using h
  clear hM
  have HL := Lib.hid (fun W h0 h1 => bufLen b q 0 0 none W h0 h1 (by omega))
  have HT : Hid (∀ W : World, W.cell? ⟨b, q, none⟩ = some (.slice none 0 0) → Calls Tryd.prog 80 #[.pointer (some ⟨b, q, none⟩), .int .i64 n] W fun e w' => e = .returned (.tuple #[.int .i64 0, .bool false]) ∧ w' = W) := Lib.hid (fun W h0 => bufNoRoom b q 0 0 n none W h0 (Nat.le_refl _) (by omega) (by omega) (by omega))
  have hq : ∀ W : World, (binOp .eql 22 (.slice none 0 0) (.slice none 0 0)).run Tryd.prog W = .ok (.bool true) W := fun W => Lib.run_eql_slice_nil_nil W 0 0 Tryd.underlying22
  have c0a : ∀ n o, ((w.drewN n).alloc o).cell? ⟨b, q, none⟩ = some (.slice none 0 0) := fun n o => cell_alloc o c0
  have f0a : ∀ n o, ((w.drewN n).alloc o).frozen? ⟨b, q, none⟩ = false := fun n o => (World.frozen?_of_block (a := ⟨b, q, none⟩) (Below.heap_alloc (w.drewN n) o b hb)).trans f0
  have HM := Lib.hid hMs
  clear hi5 hi hz0 hz1 hz2
  go_enter Tryd.func81, Tryd.ntmps81
  go_wp2_with (first | (go_at_call 86; (with_reducible refine (HL.out _ c0 c1).mono ?_); rintro e w1 ⟨rfl, n1, rfl⟩) | (go_at_call 80; (with_reducible refine (HT.out _ ?h0).mono ?_); (case h0 => exact c0); rintro e w2 ⟨rfl, rfl⟩))
  go_ret
  refine ⟨w.heap.size, 64, M, rfl, ?_, ?_, HM.out, by unfold maxLen; omega, by omega, rfl, Nat.le_refl _, ?_⟩
  · rw [Nat.zero_add]
    exact xb_alloc (xb_set HBk.out q _)
  · have hx := xb_new (w.setCell ⟨b, q, none⟩ (.slice (some ⟨w.heap.size, 0, none⟩) n 64)) (.cells M 5)
    rw [World.size_setCell] at hx
    exact hx
  · exact grown_bl (grown_alloc (grown_set (grown_refl w (some b))) _) (bl_drewN _ _)
set_option maxHeartbeats 2000000 in
set_option maxRecDepth 100000 in
/-- An empty buffer grows by more than 64 bytes. -/
theorem grow_nil_big (b q n : Nat) (T : TypeId) (cs : Array Value) (w : World) (hb : w.heap[b]? = some (.cells cs T (0, 0))) (h0 : cs[q]? = some (.slice none 0 0)) (h1 : cs[q + 1]? = some (.int .i64 0)) (h64 : 64 < n) (hlim : n ≤ 140737488355328) :
    Calls Tryd.prog 81 #[.pointer (some ⟨b, q, none⟩), .int .i64 n] w (RetGrow b q T cs 0 n [] w) := by
  have hnil : ∀ W, (binOp .eql 22 (.slice none 0 0) (.slice none 0 0)).run Tryd.prog W = .ok (.bool true) W := fun W => Lib.run_eql_slice_nil_nil W 0 0 Tryd.underlying22
  have c0 := (xb_cell hb q).trans h0
  have c1 := (xb_cell hb (q + 1)).trans h1
  have f0 := blk_free hb q
  have f1 := blk_free hb (q + 1)
  have hbs := xb_lt hb
  have GS : Hid (∀ W, Calls Tryd.prog 88 #[.slice none 0 0, .int .i64 n] W fun e w' => ∃ cap2 cells, e = .returned (.slice (some ⟨W.heap.size, 0, none⟩) 0 cap2) ∧ w'.heap[W.heap.size]? = some (.cells cells 5 (0, 0)) ∧ cells.size = cap2 ∧ n ≤ cap2 ∧ cap2 ≤ maxLen ∧ Below W.heap.size W w') :=
    Lib.hid fun W => Tryd.bytes_growSlice_nil n W (by omega) hlim
  have BL : Hid (Calls Tryd.prog 86 #[.pointer (some ⟨b, q, none⟩)] w (RetLen 0 w)) := Lib.hid (bufLen b q 0 0 _ w c0 c1 (by omega))
  have BN : Hid (∀ W, W.cell? ⟨b, q, none⟩ = some (.slice none 0 0) → Calls Tryd.prog 80 #[.pointer (some ⟨b, q, none⟩), .int .i64 n] W fun e w' => e = .returned (.tuple #[.int .i64 0, .bool false]) ∧ w' = W) :=
    Lib.hid fun W d0 => bufNoRoom b q 0 0 n _ W d0 (Nat.le_refl _) (by omega) (by omega) (by omega)
  have HB := Lib.hid hb
  have H1 := Lib.hid h1
  have HW : Hid (∀ W, Below w.heap.size w W → W.cell? ⟨b, q, none⟩ = some (.slice none 0 0) ∧ W.cell? ⟨b, q + 1, none⟩ = some (.int .i64 0) ∧ W.frozen? ⟨b, q, none⟩ = false ∧ W.frozen? ⟨b, q + 1, none⟩ = false) := Lib.hid fun W hW => ⟨bl_cell hW c0, bl_cell hW c1, (hW.frozen (p := ⟨b, q, none⟩) hbs).trans f0, (hW.frozen (p := ⟨b, q + 1, none⟩) hbs).trans f1⟩
  clear hb h0 h1
  have hwn : IntKind.i64.wrap (n : Int) = n := by rw [IntKind.wrap_i64]; omega
  go_enter Tryd.func81, Tryd.ntmps81
  go_wp2_with fail
  refine BL.out.mono ?_
  rintro e w1 ⟨rfl, hd⟩
  obtain ⟨d, rfl⟩ := hd.out
  clear hd
  go_wp2_with fail
  refine (BN.out _ (by exact c0)).mono ?_
  rintro e w2 ⟨rfl, rfl⟩
  go_wp2_with fail
  clear hnil BN BL
  go_region_with (
    go_at_call 88
    refine (GS.out _).mono ?_
    rintro e w2 ⟨cap2, cells, rfl, hN, hcsz, hcap2, hcm2, hbel⟩
    have HWW := Lib.hid (bl_trans (bl_drewN w (d + 1)) hbel)
    obtain ⟨k0, k1, kf0, kf1⟩ := HW.out w2 HWW.out
    have HN := Lib.hid hN
    have HS := Lib.hid hcsz
    clear hN hcsz hbel)
  all_goals (
    go_wp2
    go_ret
    have hne : ¬ w.heap.size = b := by omega
    refine ⟨w.heap.size, cap2, cells, rfl, ?_, ?_, HS.out, hcm2, by omega, rfl, Nat.le_refl _, grown_set (grown_set (grown_set (grown_bl (grown_refl _ _) HWW.out)))⟩
    · rw [← grow_cells H1.out, Nat.zero_add]
      exact xb_set (xb_set (xb_set (blk_bl HB.out HWW.out hbs) q _) (q + 1) _) q _
    · rw [blk_set_other hne, blk_set_other hne, blk_set_other hne]
      exact HN.out)
theorem grow_nil_any (b q n : Nat) (T : TypeId) (cs : Array Value) (w : World) (hb : w.heap[b]? = some (.cells cs T (0, 0))) (h0 : cs[q]? = some (.slice none 0 0)) (h1 : cs[q + 1]? = some (.int .i64 0)) (hn : 1 ≤ n) (hlim : n ≤ 140737488355328) :
    Calls Tryd.prog 81 #[.pointer (some ⟨b, q, none⟩), .int .i64 n] w (RetGrow b q T cs 0 n [] w) := by
  by_cases h : n ≤ 64
  · exact grow_nil_small b q n T cs w hb h0 h1 hn h
  · exact grow_nil_big b q n T cs w hb h0 h1 (by omega) hlim
set_option maxRecDepth 100000 in
set_option maxHeartbeats 1000000 in
/-- Write where there is no room, whatever the buffer was (a row, or none): by what its grow does. -/
theorem bufWriteGrowsAny (b q g l c : Nat) (A0 : Option Addr) (T : TypeId) (cs : Array Value) (old : List Value) (lr : Int) (a : Addr) (cp : Nat) (p : List Int) (w : World) (hb : w.heap[b]? = some (.cells cs T (0, 0))) (h0 : cs[q]? = some (.slice A0 l c)) (h2 : cs[q + 2]? = some (.int .i8 lr))
    (hlc : l ≤ c) (hc : c ≤ maxLen) (all : List Value) (hall : old ++ nums .u8 p = all) (hol : old.length = l)
    (hp : 0 < p.length) (hsrc : ∀ j v, (nums .u8 p)[j]? = some v → w.cell? (a.add j) = some v) (hab : a.block ≠ b) (hfit : c - l < p.length) (hlim : l + p.length ≤ 140737488355328) (h1c : ∀ v ∈ old, v.oneCell' = true)
    (hgrow : Calls Tryd.prog 81 #[.pointer (some ⟨b, q, none⟩), .int .i64 p.length] (w.setCell ⟨b, q + 2, none⟩ (.int .i8 0)) (RetGrow b q T (cs.setIfInBounds (q + 2) (.int .i8 0)) l p.length old (w.setCell ⟨b, q + 2, none⟩ (.int .i8 0)))) :
    Calls Tryd.prog 58 #[.pointer (some ⟨b, q, none⟩), .slice (some a) p.length cp] w (RetWrite b q g T cs l p.length all w) := by
  have c2 := (xb_cell hb (q + 2)).trans h2
  have f2 := blk_free hb (q + 2)
  have hbs := xb_lt hb
  have hinfo : (Tryd.prog.info? 5).map (·.size) = some 1 := by kernel_rfl
  have hc' := hc
  unfold maxLen at hc'
  have hnl : (nums .u8 p).length = p.length := nums_length ..
  have BR : Hid (Calls Tryd.prog 80 #[.pointer (some ⟨b, q, none⟩), .int .i64 p.length] (w.setCell ⟨b, q + 2, none⟩ (.int .i8 0)) fun e w' => e = .returned (.tuple #[.int .i64 0, .bool false]) ∧ w' = w.setCell ⟨b, q + 2, none⟩ (.int .i8 0)) :=
    Lib.hid (bufNoRoom b q l c p.length _ _ ((set_in (by omega)).trans ((xb_cell hb q).trans h0)) hlc (by omega) hfit (by omega))
  have BG := Lib.hid hgrow
  have hg0 : w.grownBy (w.setCell ⟨b, q + 2, none⟩ (.int .i8 0)) (some b) := grown_set (grown_refl _ _)
  have HG0 := Lib.hid hg0
  have HQ := Lib.hid (show (cs.setIfInBounds (q + 2) (.int .i8 0)).size = cs.size by simp)
  have hq : q < cs.size := by have := (Array.getElem?_eq_some_iff.1 h0).1; exact this
  have HSRC := Lib.hid hsrc
  have HALL := Lib.hid hall
  have HNL := Lib.hid hnl
  have HINFO := Lib.hid hinfo
  clear hb h0 h2 hg0 hsrc hall hnl hinfo h1c hgrow
  obtain ⟨n, hn⟩ : ∃ n, n = p.length := ⟨_, rfl⟩
  have HN := Lib.hid hn
  rw [← hn] at hp hfit BR BG hlim ⊢
  clear hn
  go_enter Tryd.func58, Tryd.ntmps58
  go_wp2_with fail
  refine BR.out.mono ?_
  rintro e w0 ⟨rfl, rfl⟩
  go_wp2_with fail
  refine BG.out.mono ?_
  rintro e w1 ⟨g2, c3, cur2, rfl, hb1, hg1, hs2, hm2, hl2, ht2, hn2, hgr⟩
  have hn2' : w.heap.size ≤ g2 := by simpa [World.setCell] using hn2
  have hgrw := grown_trans HG0.out hgr
  have hgb2 : ¬ g2 = b := by omega
  have d0 : w1.cell? ⟨b, q, none⟩ = some (.slice (some ⟨g2, 0, none⟩) (l + n) c3) := (xb_cell hb1 q).trans (Array.getElem?_setIfInBounds_self_of_lt (by rw [HQ.out]; exact hq))
  have hcp := run_copy_row (P := Tryd.prog) w1 22 22 3 5 g2 l n (c3 - l) a n cp cur2 5 (nums .u8 p) Tryd.underlying22 HINFO.out hg1 (by rw [HNL.out, HN.out]; exact (Nat.min_self _).symm) (fun j v hj => hgrw.cell (HSRC.out j v hj) (by rw [Lib.block_add]; exact fun e => hab (Option.some.inj e))) (by rw [HNL.out, ← HN.out]; omega) (nums_one p)
  have hst := (splice_take cur2 l (nums .u8 p) (by omega)).trans ((congrArg (· ++ nums .u8 p) ht2).trans HALL.out)
  have hsz : ((cur2.toList.take l ++ nums .u8 p ++ cur2.toList.drop (l + (nums .u8 p).length)).toArray).size = c3 := by
    simp only [List.size_toArray, List.length_append, List.length_take, List.length_drop, Array.length_toList]
    rw [HNL.out, ← HN.out]
    omega
  rw [HNL.out, ← HN.out] at hcp hst hsz
  generalize (cur2.toList.take l ++ nums .u8 p ++ cur2.toList.drop (l + n)).toArray = ROW at *
  have HG := Lib.hid hgrw
  have Hb1 := Lib.hid hb1
  have Hg1 := Lib.hid hg1
  have HST := Lib.hid hst
  have HSZ := Lib.hid hsz
  have hne : ¬ c3 = l := by omega
  have hm2' := hm2
  unfold maxLen at hm2'
  clear hb1 hg1 hgr BR BG HG0 HQ HSRC HALL HNL HINFO HN hst hsz hgrw ht2 hs2
  go_wp2
  all_goals
    go_ret2
    exact ⟨g2, c3, ROW, by first | rfl | simp, (setRow_other w1 g2 b ROW (fun e => hgb2 e.symm)).trans Hb1.out, setRow_heap w1 g2 cur2 ROW _ _ Hg1.out, HSZ.out, hm2, hl2, HST.out, .inr hn2', (Kp2.of HG.out g).setRow (.inr hn2') ROW⟩
set_option maxHeartbeats 400000 in
/-- Nothing is written to an empty buffer. -/
theorem bufWriteNone (b q : Nat) (T : TypeId) (cs : Array Value) (lr : Int) (A : Option Addr) (cp : Nat) (w : World) (hb : w.heap[b]? = some (.cells cs T (0, 0))) (h0 : cs[q]? = some (.slice none 0 0)) (h2 : cs[q + 2]? = some (.int .i8 lr)) :
    Calls Tryd.prog 58 #[.pointer (some ⟨b, q, none⟩), .slice A 0 cp] w fun e w' => e = .returned (.tuple #[.int .i64 0, .nilIface]) ∧ w'.heap[b]? = some (.cells ((cs.setIfInBounds (q + 2) (.int .i8 0)).setIfInBounds q (.slice none 0 0)) T (0, 0)) ∧ w.grownBy w' (some b) := by
  have c2 := (xb_cell hb (q + 2)).trans h2
  have f2 := blk_free hb (q + 2)
  have hinfo : (Tryd.prog.info? 5).map (·.size) = some 1 := by kernel_rfl
  have hce : ∀ d dLen dCap W, (Builtin.copy_ #[22, 22] 3 #[.slice d dLen dCap, .slice A 0 cp]).run Tryd.prog W = .ok (goInt 0) W := fun d dLen dCap W => run_copy_none W 22 22 3 5 d A dLen dCap 0 cp Tryd.underlying22 hinfo (by simp)
  have br := bufRoomB b q 0 0 0 T (cs.setIfInBounds (q + 2) (.int .i8 0)) none (w.setCell ⟨b, q + 2, none⟩ (.int .i8 0)) (xb_set hb (q + 2) _) (by rw [Array.getElem?_setIfInBounds_ne (by omega)]; exact h0) (Nat.le_refl _) (by omega) (by omega)
  have BR := Lib.hid br
  have HG0 := Lib.hid (show w.grownBy (w.setCell ⟨b, q + 2, none⟩ (.int .i8 0)) (some b) from grown_set (grown_refl _ _))
  have HQ := Lib.hid (show (cs.setIfInBounds (q + 2) (.int .i8 0)).size = cs.size by simp)
  have hq : q < cs.size := by have := (Array.getElem?_eq_some_iff.1 h0).1; exact this
  clear hb h0 h2 br
  go_enter Tryd.func58, Tryd.ntmps58
  go_wp2_with fail
  refine BR.out.mono ?_
  rintro e w1 ⟨rfl, hb1, hgr⟩
  have d0 : w1.cell? ⟨b, q, none⟩ = some (.slice none 0 0) := (xb_cell hb1 q).trans (Array.getElem?_setIfInBounds_self_of_lt (by rw [HQ.out]; exact hq))
  have HG := Lib.hid (grown_trans HG0.out hgr)
  have Hb1 := Lib.hid hb1
  clear hb1 hgr BR HG0 HQ
  go_wp2
  all_goals
    go_ret2
    exact ⟨by first | rfl | simp, Hb1.out, HG.out⟩
def RetB (b q g : Nat) (T : TypeId) (cs : Array Value) (l : Nat) (all : List Value) (w : World) (e : Ending) (w' : World) : Prop :=
  ∃ g' cap cur, e = .returned .nilIface ∧ w'.heap[b]? = some (.cells ((cs.setIfInBounds (q + 2) (.int .i8 0)).setIfInBounds q (.slice (some ⟨g', 0, none⟩) (l + 1) cap)) T (0, 0)) ∧ w'.heap[g']? = some (.cells cur 5 (0, 0)) ∧ cur.size = cap ∧ cap ≤ maxLen ∧ l + 1 ≤ cap ∧ cur.toList.take (l + 1) = all ∧ (g' = g ∨ w.heap.size ≤ g') ∧ Kp2 w w' b g
theorem take_set {cur : Array Value} {l : Nat} {u : Value} (h : l < cur.size) : (cur.setIfInBounds l u).toList.take (l + 1) = cur.toList.take l ++ [u] := by
  rw [Array.toList_setIfInBounds, List.take_add_one, List.take_set_of_le (Nat.le_refl _), List.getElem?_set_self (by simpa using h)]
  rfl
theorem Kp2.setCell {a w : World} {b g g' i : Nat} {u : Value} (h : Kp2 a w b g) (hg : g' = g ∨ a.heap.size ≤ g') : Kp2 a (w.setCell ⟨g', i, none⟩ u) b g :=
  ⟨h.os, h.tape, h.output, by rw [World.size_setCell]; exact h.size, fun k hk hb hkg => (blk_set_other (by rcases hg with rfl | hg <;> omega)).trans (h.block k hk hb hkg)⟩
set_option maxHeartbeats 1000000 in
set_option maxRecDepth 100000 in
theorem writeByteFits (b q g l c : Nat) (T : TypeId) (cs cur : Array Value) (lr x : Int) (w : World) (hb : w.heap[b]? = some (.cells cs T (0, 0))) (h0 : cs[q]? = some (.slice (some ⟨g, 0, none⟩) l c)) (h2 : cs[q + 2]? = some (.int .i8 lr))
    (hg : w.heap[g]? = some (.cells cur 5 (0, 0))) (hgb : ¬ g = b) (hcs : cur.size = c) (hlc : l < c) (hc : c ≤ maxLen) (all : List Value) (hall : cur.toList.take l ++ [.int .u8 x] = all) :
    Calls Tryd.prog 59 #[.pointer (some ⟨b, q, none⟩), .int .u8 x] w (RetB b q g T cs l all w) := by
  have c2 := (xb_cell hb (q + 2)).trans h2
  have f2 := blk_free hb (q + 2)
  have hc' := hc
  unfold maxLen at hc'
  have br := bufRoomB b q l c 1 T (cs.setIfInBounds (q + 2) (.int .i8 0)) (some ⟨g, 0, none⟩) (w.setCell ⟨b, q + 2, none⟩ (.int .i8 0)) (xb_set hb (q + 2) _) (by rw [Array.getElem?_setIfInBounds_ne (by omega)]; exact h0) (by omega) (by omega) (by omega)
  rw [show ((1 : Nat) : Int) = 1 from rfl] at br
  have BR := Lib.hid br
  have HG0 := Lib.hid (show w.grownBy (w.setCell ⟨b, q + 2, none⟩ (.int .i8 0)) (some b) from grown_set (grown_refl _ _))
  have HGW := Lib.hid hg
  have HQ := Lib.hid (show (cs.setIfInBounds (q + 2) (.int .i8 0)).size = cs.size by simp)
  have hq : q < cs.size := by have := (Array.getElem?_eq_some_iff.1 h0).1; exact this
  have hst := (take_set (u := .int .u8 x) (by rw [hcs]; exact hlc)).trans hall
  have HST := Lib.hid hst
  have HSZ := Lib.hid (show (cur.setIfInBounds l (.int .u8 x)).size = c by rw [Array.size_setIfInBounds]; exact hcs)
  have hu : ∃ u, cur[l]? = some u := ⟨cur[l]'(by omega), Array.getElem?_eq_getElem (by omega)⟩
  clear hb h0 h2 hg br hst hall
  go_enter Tryd.func59, Tryd.ntmps59
  go_wp2_with fail
  refine BR.out.mono ?_
  rintro e w1 ⟨rfl, hb1, hgr⟩
  have d0 : w1.cell? ⟨b, q, none⟩ = some (.slice (some ⟨g, 0, none⟩) (l + 1) c) := (xb_cell hb1 q).trans (Array.getElem?_setIfInBounds_self_of_lt (by rw [HQ.out]; exact hq))
  have hg1 : w1.heap[g]? = some (.cells cur 5 (0, 0)) := ((grown_trans HG0.out hgr).block g (xb_lt HGW.out) (fun e => hgb (by injection e))).trans HGW.out
  obtain ⟨u, hu⟩ := hu
  have dg : w1.cell? ⟨g, l, none⟩ = some u := (xb_cell hg1 l).trans hu
  have dgf := blk_free hg1 l
  have HG := Lib.hid (grown_trans HG0.out hgr)
  have Hb1 := Lib.hid hb1
  have Hg1 := Lib.hid hg1
  clear hb1 hg1 hgr BR HG0 HGW HQ hu hcs
  go_wp2
  go_ret
  exact ⟨g, c, _, rfl, (blk_set_other (fun e => hgb e.symm)).trans Hb1.out, xb_set Hg1.out l _, HSZ.out, hc, by omega, HST.out, .inl rfl, (Kp2.of HG.out g).setCell (.inl rfl)⟩
set_option maxHeartbeats 1000000 in
set_option maxRecDepth 100000 in
theorem writeByteGrowsAny (b q g l c : Nat) (A0 : Option Addr) (T : TypeId) (cs : Array Value) (old : List Value) (lr x : Int) (w : World) (hb : w.heap[b]? = some (.cells cs T (0, 0))) (h0 : cs[q]? = some (.slice A0 l c)) (h2 : cs[q + 2]? = some (.int .i8 lr))
    (hlc : l ≤ c) (hfit : c - l < 1) (hc : c ≤ maxLen) (hlim : l + 1 ≤ 140737488355328) (all : List Value) (hall : old ++ [.int .u8 x] = all)
    (hgrow : Calls Tryd.prog 81 #[.pointer (some ⟨b, q, none⟩), .int .i64 (1 : Nat)] (w.setCell ⟨b, q + 2, none⟩ (.int .i8 0)) (RetGrow b q T (cs.setIfInBounds (q + 2) (.int .i8 0)) l 1 old (w.setCell ⟨b, q + 2, none⟩ (.int .i8 0)))) :
    Calls Tryd.prog 59 #[.pointer (some ⟨b, q, none⟩), .int .u8 x] w (RetB b q g T cs l all w) := by
  have c2 := (xb_cell hb (q + 2)).trans h2
  have f2 := blk_free hb (q + 2)
  have hbs := xb_lt hb
  have hc' := hc
  unfold maxLen at hc'
  have br := bufNoRoom b q l c 1 A0 (w.setCell ⟨b, q + 2, none⟩ (.int .i8 0)) ((set_in (by omega)).trans ((xb_cell hb q).trans h0)) hlc (by omega) hfit (by omega)
  rw [show ((1 : Nat) : Int) = 1 from rfl] at br hgrow
  have BR := Lib.hid br
  have BG := Lib.hid hgrow
  have HG0 := Lib.hid (show w.grownBy (w.setCell ⟨b, q + 2, none⟩ (.int .i8 0)) (some b) from grown_set (grown_refl _ _))
  have HQ := Lib.hid (show (cs.setIfInBounds (q + 2) (.int .i8 0)).size = cs.size by simp)
  have hq : q < cs.size := by have := (Array.getElem?_eq_some_iff.1 h0).1; exact this
  have HALL := Lib.hid hall
  clear hb h0 h2 br hgrow hall
  go_enter Tryd.func59, Tryd.ntmps59
  go_wp2_with fail
  refine BR.out.mono ?_
  rintro e w0 ⟨rfl, rfl⟩
  go_wp2_with fail
  refine BG.out.mono ?_
  rintro e w1 ⟨g2, c3, cur2, rfl, hb1, hg1, hs2, hm2, hl2, ht2, hn2, hgr⟩
  have hn2' : w.heap.size ≤ g2 := by simpa [World.setCell] using hn2
  have hgrw := grown_trans HG0.out hgr
  have hgb2 : ¬ g2 = b := by omega
  have d0 : w1.cell? ⟨b, q, none⟩ = some (.slice (some ⟨g2, 0, none⟩) (l + 1) c3) := (xb_cell hb1 q).trans (Array.getElem?_setIfInBounds_self_of_lt (by rw [HQ.out]; exact hq))
  have hu : ∃ u, cur2[l]? = some u := ⟨cur2[l]'(by omega), Array.getElem?_eq_getElem (by omega)⟩
  obtain ⟨u, hu⟩ := hu
  have dg : w1.cell? ⟨g2, l, none⟩ = some u := (xb_cell hg1 l).trans hu
  have dgf := blk_free hg1 l
  have hst := (take_set (cur := cur2) (l := l) (u := .int .u8 x) (by omega)).trans ((congrArg (· ++ [Value.int .u8 x]) ht2).trans HALL.out)
  have HST := Lib.hid hst
  have HSZ := Lib.hid (show (cur2.setIfInBounds l (.int .u8 x)).size = c3 by rw [Array.size_setIfInBounds]; exact hs2)
  have HG := Lib.hid hgrw
  have Hb1 := Lib.hid hb1
  have Hg1 := Lib.hid hg1
  have hm2' := hm2
  unfold maxLen at hm2'
  clear hb1 hg1 hgr BR BG HG0 HQ HALL hgrw ht2 hs2 hst hu
  go_wp2
  go_ret
  exact ⟨g2, c3, _, rfl, (blk_set_other (fun e => hgb2 e.symm)).trans Hb1.out, xb_set Hg1.out l _, HSZ.out, hm2, by omega, HST.out, .inr hn2', (Kp2.of HG.out g).setCell (.inr hn2')⟩
end Go.Proofs.YtdnahdddkagfhaaDoor.X
/- A buffer in a block of more cells, whatever it holds: its state, its steps; a session that writes. -/
namespace Go.Proofs.YtdnahdddkagfhaaDoor.X
open Go.RowKit Go.Proofs.YtdnahdddkagfhaaDoorW.PrintWords Go.Proofs.YtdnahdddkagfhaaDoorW.PrintMore
attribute [local go_sem] setCell_drewN alloc_drewN
set_option linter.unusedVariables false
set_option linter.unusedSimpArgs false
/-- A buffer at q of block b (cells cs, type T) that holds out, in the row g (g = b: none yet). -/
structure BufA (w : World) (b q g : Nat) (T : TypeId) (cs : Array Value) (out : List Int) : Prop where
  blk : w.heap[b]? = some (.cells cs T (0, 0))
  off : cs[q + 1]? = some (.int .i64 0)
  lr : ∃ lr, cs[q + 2]? = some (.int .i8 lr)
  row : (cs[q]? = some (.slice none 0 0) ∧ out = [] ∧ g = b) ∨ (¬ g = b ∧ ∃ cap cur, cs[q]? = some (.slice (some ⟨g, 0, none⟩) out.length cap) ∧ w.heap[g]? = some (.cells cur 5 (0, 0)) ∧ cur.size = cap ∧ cap ≤ maxLen ∧ out.length ≤ cap ∧ cur.toList.take out.length = nums .u8 out)
/-- What a step leaves. -/
structure BufS (w w' : World) (b q g g' : Nat) (T : TypeId) (cs cs' : Array Value) (out' : List Int) : Prop where
  now : BufA w' b q g' T cs' out'
  cells : ∀ i, i < q ∨ q + 2 < i → cs'[i]? = cs[i]?
  size : cs'.size = cs.size
  row : g' = g ∨ w.heap.size ≤ g'
  kept : Kp2 w w' b g
section
variable {w w' : World} {b q g g' g'' : Nat} {T : TypeId} {cs cs' cs'' : Array Value} {out out' out'' : List Int}
theorem BufA.keep (h : BufA w b q g T cs out) (hb : w'.heap[b]? = w.heap[b]?) (hg : w'.heap[g]? = w.heap[g]?) : BufA w' b q g T cs out := by
  obtain ⟨h1, h2, h3, h4⟩ := h
  refine ⟨hb.trans h1, h2, h3, ?_⟩
  rcases h4 with h4 | ⟨h4, cap, cur, h5, h6, h7⟩
  · exact .inl h4
  · exact .inr ⟨h4, cap, cur, h5, hg.trans h6, h7⟩
theorem BufA.lt (h : BufA w b q g T cs out) : b < w.heap.size := xb_lt h.blk
theorem BufA.ltg (h : BufA w b q g T cs out) : g < w.heap.size := by
  rcases h.row with ⟨_, _, rfl⟩ | ⟨_, cap, cur, _, h6, _⟩
  · exact h.lt
  · exact xb_lt h6
theorem BufA.bl (h : BufA w b q g T cs out) (k : Below w.heap.size w w') : BufA w' b q g T cs out := h.keep (k.block b h.lt) (k.block g h.ltg)
theorem BufA.grown {r : Option Nat} (h : BufA w b q g T cs out) (k : w.grownBy w' r) (hb : some b ≠ r) (hg : some g ≠ r) : BufA w' b q g T cs out := h.keep (k.block b h.lt hb) (k.block g h.ltg hg)
theorem BufA.len (h : BufA w b q g T cs out) : out.length ≤ maxLen := by
  rcases h.row with ⟨_, rfl, _⟩ | ⟨_, cap, cur, _, _, _, h7, h8, _⟩
  · exact Nat.zero_le _
  · exact Nat.le_trans h8 h7
theorem kp2_comp {w1 w2 : World} {g1 : Nat} (h : Kp2 w w1 b g) (k : Kp2 w1 w2 b g1) (hg : g1 = g ∨ w.heap.size ≤ g1) : Kp2 w w2 b g :=
  ⟨k.os.trans h.os, k.tape.trans h.tape, k.output.trans h.output, Nat.le_trans h.size k.size, fun i hi hb hgi => (k.block i (Nat.lt_of_lt_of_le hi h.size) hb (by rcases hg with rfl | hg <;> omega)).trans (h.block i hi hb hgi)⟩
theorem kp2_bl {w1 w2 : World} (h : Kp2 w w1 b g) (k : Below w1.heap.size w1 w2) : Kp2 w w2 b g :=
  ⟨k.os.trans h.os, k.tape.trans h.tape, k.output.trans h.output, Nat.le_trans h.size k.size, fun i hi hb hgi => (k.block i (Nat.lt_of_lt_of_le hi h.size)).trans (h.block i hi hb hgi)⟩
theorem kp2_blB {w1 w2 : World} {B : Nat} (h : Kp2 w w1 b g) (k : Below B w1 w2) (hB : w.heap.size ≤ B) : Kp2 w w2 b g :=
  ⟨k.os.trans h.os, k.tape.trans h.tape, k.output.trans h.output, Nat.le_trans h.size k.size, fun i hi hb hgi => (k.block i (by omega)).trans (h.block i hi hb hgi)⟩
theorem kp2_of_bl {w1 : World} (k : Below w.heap.size w w1) (b g : Nat) : Kp2 w w1 b g := ⟨k.os, k.tape, k.output, k.size, fun i hi _ _ => k.block i hi⟩
theorem BufS.trans {w'' : World} (h : BufS w w' b q g g' T cs cs' out') (k : BufS w' w'' b q g' g'' T cs' cs'' out'') : BufS w w'' b q g g'' T cs cs'' out'' :=
  ⟨k.now, fun i hi => (k.cells i hi).trans (h.cells i hi), k.size.trans h.size, by
    have := h.kept.size
    rcases k.row with rfl | hk
    · exact h.row
    · exact .inr (by omega), kp2_comp h.kept k.kept h.row⟩
theorem BufS.after {w'' : World} (h : BufS w w' b q g g' T cs cs' out') (k : Below w'.heap.size w' w'') : BufS w w'' b q g g' T cs cs' out' := ⟨h.now.bl k, h.cells, h.size, h.row, kp2_bl h.kept k⟩
theorem BufS.of (h : BufA w b q g T cs out) : BufS w w b q g g T cs cs out := ⟨h, fun _ _ => rfl, rfl, .inl rfl, ⟨rfl, rfl, rfl, Nat.le_refl _, fun _ _ _ _ => rfl⟩⟩
/-- What lay there stays, but for b and g. -/
theorem BufS.cell (h : BufS w w' b q g g' T cs cs' out') {a : Addr} {v : Value} (hc : w.cell? a = some v) (hb : a.block ≠ b) (hg : a.block ≠ g) : w'.cell? a = some v :=
  (World.cell?_of_block (a := a) (h.kept.block a.block (World.block_lt_of_cell? w a hc) hb hg)).trans hc
/-- From the world before. -/
theorem BufS.from {w0 : World} (k : Below w0.heap.size w0 w) (h : BufS w w' b q g g' T cs cs' out') (hz : g < w0.heap.size) : BufS w0 w' b q g g' T cs cs' out' :=
  ⟨h.now, h.cells, h.size, by have := h.row; have := k.size; omega, kp2_comp (kp2_of_bl k b g) h.kept (.inl rfl)⟩
theorem rest_cells (i : Nat) (u v : Value) (hi : i < q ∨ q + 2 < i) : ((cs.setIfInBounds (q + 2) u).setIfInBounds q v)[i]? = cs[i]? := by
  rw [Array.getElem?_setIfInBounds_ne (by omega), Array.getElem?_setIfInBounds_ne (by omega)]
theorem row_of_step {n cap : Nat} {all : List Int} (h1 : cs[q + 1]? = some (.int .i64 0)) (h2 : q + 2 < cs.size) (hb : w'.heap[b]? = some (.cells ((cs.setIfInBounds (q + 2) (.int .i8 0)).setIfInBounds q (.slice (some ⟨g', 0, none⟩) n cap)) T (0, 0))) {cur : Array Value} (hg : w'.heap[g']? = some (.cells cur 5 (0, 0))) (hs : cur.size = cap) (hm : cap ≤ maxLen) (hl : n ≤ cap) (ht : cur.toList.take n = nums .u8 all) (hn : all.length = n) (hgb : ¬ g' = b) (hrow : g' = g ∨ w.heap.size ≤ g') (hk : Kp2 w w' b g) : ∃ g' cs', BufS w w' b q g g' T cs cs' all := by
  refine ⟨g', _, ⟨⟨hb, ?_, ⟨0, ?_⟩, .inr ⟨hgb, cap, cur, ?_, hg, hs, hm, by omega, by rw [hn]; exact ht⟩⟩, fun i hi => rest_cells i _ _ hi, by simp, hrow, hk⟩⟩
  · rw [Array.getElem?_setIfInBounds_ne (by omega), Array.getElem?_setIfInBounds_ne (by omega)]
    exact h1
  · rw [Array.getElem?_setIfInBounds_ne (by omega)]
    exact arr_self h2
  · rw [hn]
    exact arr_self (by rw [Array.size_setIfInBounds]; omega)
end
/-- A step's post: what is returned, and that the buffer holds out' behind it. -/
def BufP (v : Value) (b q g : Nat) (T : TypeId) (cs : Array Value) (out' : List Int) (w : World) (e : Ending) (w' : World) : Prop := e = .returned v ∧ ∃ g' cs', BufS w w' b q g g' T cs cs' out'
theorem writeByte_any (b q g : Nat) (T : TypeId) (cs : Array Value) (out : List Int) (x : Int) (w : World) (h : BufA w b q g T cs out) (hlim : out.length + 1 ≤ 140737488355328) :
    Calls Tryd.prog 59 #[.pointer (some ⟨b, q, none⟩), .int .u8 x] w (BufP .nilIface b q g T cs (out ++ [x]) w) := by
  have hlt := h.ltg
  obtain ⟨hb, h1, ⟨lr, h2⟩, h4⟩ := h
  have hb' := xb_lt hb
  have hsz := (Array.getElem?_eq_some_iff.1 h2).1
  rcases h4 with ⟨h0, rfl, rfl⟩ | ⟨hgb, cap, cur, h0, hg, hcs, hcm, hlc, hold⟩
  · refine (writeByteGrowsAny g q w.heap.size 0 0 none T cs [] lr x w hb h0 h2 (Nat.le_refl _) (by omega) (Nat.zero_le _) (by omega) (nums .u8 ([] ++ [x])) rfl (grow_nil_any g q 1 T _ _ (xb_set hb (q + 2) _) (by rw [Array.getElem?_setIfInBounds_ne (by omega)]; exact h0) (by rw [Array.getElem?_setIfInBounds_ne (by omega)]; exact h1) (by omega) (by omega))).mono ?_
    rintro e w' ⟨g', cap, cur, rfl, hb1, hg1, hs, hm, hl, ht, hrow, hk⟩
    have hrow' : w.heap.size ≤ g' := by rcases hrow with rfl | h <;> omega
    exact ⟨rfl, row_of_step h1 hsz hb1 hg1 hs hm hl ht rfl (by omega) (.inr hrow') ⟨hk.os, hk.tape, hk.output, hk.size, fun k hk' hb' _ => hk.block k hk' hb' (by omega)⟩⟩
  · have hall : cur.toList.take out.length ++ [.int .u8 x] = nums .u8 (out ++ [x]) := by rw [hold, nums_append]; rfl
    have fin : ∀ e w', RetB b q g T cs out.length (nums .u8 (out ++ [x])) w e w' → BufP .nilIface b q g T cs (out ++ [x]) w e w' := by
      rintro e w' ⟨g', cap', cur', rfl, hb1, hg1, hs, hm, hl, ht, hrow, hk⟩
      exact ⟨rfl, row_of_step h1 hsz hb1 hg1 hs hm hl ht (by simp) (by rcases hrow with rfl | h <;> omega) hrow hk⟩
    by_cases hfit : out.length < cap
    · exact (writeByteFits b q g out.length cap T cs cur lr x w hb h0 h2 hg hgb hcs hfit hcm _ hall).mono fin
    · refine (writeByteGrowsAny b q g out.length cap _ T cs (nums .u8 out) lr x w hb h0 h2 hlc (by omega) hcm hlim _ (by rw [← hold]; exact hall) ?_).mono fin
      have hgr := bufGrowRow b q g out.length cap 1 T (cs.setIfInBounds (q + 2) (.int .i8 0)) cur (w.setCell ⟨b, q + 2, none⟩ (.int .i8 0)) (xb_set hb (q + 2) _) (by rw [Array.getElem?_setIfInBounds_ne (by omega)]; exact h0) (by rw [Array.getElem?_setIfInBounds_ne (by omega)]; exact h1) ((blk_set_other hgb).trans hg) hcs hlc hcm (by omega) (by omega) hlim (by rw [hold]; exact nums_one out)
      rw [hold] at hgr
      exact hgr
theorem src_of_C {w : World} {A : Option Addr} {p : List Int} (h : Kd.C (Kd.int .u8) w A p.length p) (hp : 0 < p.length) : ∃ a, A = some a ∧ ∀ j v, (nums .u8 p)[j]? = some v → w.cell? (a.add j) = some v := by
  obtain ⟨g', o', rfl, _, hcell⟩ := C_base h hp
  refine ⟨_, rfl, fun j v hj => ?_⟩
  have hjl : j < p.length := by have := (List.getElem?_eq_some_iff.1 hj).1; rwa [nums_length] at this
  have hv : v = .int .u8 (p.getD j 0) := by
    simp only [nums, List.getElem?_map, List.getElem?_eq_getElem hjl, Option.map_some, Option.some.injEq] at hj
    rw [← hj, List.getD_eq_getElem?_getD, List.getElem?_eq_getElem hjl]; rfl
  rw [Lib.addr_add, hv]
  exact hcell j hjl
theorem write_any (b q g : Nat) (T : TypeId) (cs : Array Value) (out p : List Int) (A : Option Addr) (cp : Nat) (w : World) (h : BufA w b q g T cs out) (hC : Kd.C (Kd.int .u8) w A p.length p) (hab : ∀ a, A = some a → a.block ≠ b) (hlim : out.length + p.length ≤ 140737488355328) :
    Calls Tryd.prog 58 #[.pointer (some ⟨b, q, none⟩), .slice A p.length cp] w (BufP (.tuple #[.int .i64 p.length, .nilIface]) b q g T cs (out ++ p) w) := by
  have hlt := h.ltg
  obtain ⟨hb, h1, ⟨lr, h2⟩, h4⟩ := h
  have hb' := xb_lt hb
  have hsz := (Array.getElem?_eq_some_iff.1 h2).1
  rcases h4 with ⟨h0, rfl, rfl⟩ | ⟨hgb, cap, cur, h0, hg, hcs, hcm, hlc, hold⟩
  · by_cases hp : 0 < p.length
    · obtain ⟨a, rfl, hsrc⟩ := src_of_C hC hp
      refine (bufWriteGrowsAny g q w.heap.size 0 0 none T cs [] lr a cp p w hb h0 h2 (Nat.le_refl _) (Nat.zero_le _) (nums .u8 ([] ++ p)) rfl rfl hp hsrc (hab _ rfl) (by omega) (by simpa using hlim) (by simp) (grow_nil_any g q p.length T _ _ (xb_set hb (q + 2) _) (by rw [Array.getElem?_setIfInBounds_ne (by omega)]; exact h0) (by rw [Array.getElem?_setIfInBounds_ne (by omega)]; exact h1) (by omega) (by simpa using hlim))).mono ?_
      rintro e w' ⟨g', cap, cur, rfl, hb1, hg1, hs, hm, hl, ht, hrow, hk⟩
      have hrow' : w.heap.size ≤ g' := by rcases hrow with rfl | h <;> omega
      exact ⟨rfl, row_of_step h1 hsz hb1 hg1 hs hm hl (by simpa using ht) (by simp) (by omega) (.inr hrow') ⟨hk.os, hk.tape, hk.output, hk.size, fun k hk' hb' _ => hk.block k hk' hb' (by omega)⟩⟩
    · have hz : p = [] := List.eq_nil_of_length_eq_zero (by omega)
      subst hz
      refine (bufWriteNone g q T cs lr A cp w hb h0 h2).mono ?_
      rintro e w' ⟨rfl, hb1, hk⟩
      refine ⟨rfl, g, _, ⟨⟨hb1, ?_, ⟨0, ?_⟩, .inl ⟨?_, rfl, rfl⟩⟩, fun i hi => rest_cells i _ _ hi, by simp, .inl rfl, Kp2.of hk g⟩⟩
      · rw [Array.getElem?_setIfInBounds_ne (by omega), Array.getElem?_setIfInBounds_ne (by omega)]
        exact h1
      · rw [Array.getElem?_setIfInBounds_ne (by omega)]
        exact arr_self hsz
      · exact arr_self (by rw [Array.size_setIfInBounds]; omega)
  · refine (bufWriteRow b q g out.length cap T cs cur lr A cp p w hb h0 h1 h2 hg hgb hcs hlc hcm out hold hC hab hlim).mono ?_
    rintro e w' ⟨g', cap', cur', rfl, hb1, hg1, hs, hm, hl, ht, hrow, hk⟩
    exact ⟨rfl, row_of_step h1 hsz hb1 hg1 hs hm hl ht (by simp) (by rcases hrow with rfl | h <;> omega) hrow hk⟩
namespace Ses
/-- The cells of a session that only writes. -/
def cellsW (v : Value) (lr : Int) (big : Bool) (chunk : Int) : Array Value := #[.slice none 0 0, v, .int .i64 0, .int .i8 lr, .int .i64 0, .bool big, .int .i64 chunk]
/-- A session at block b that has written out. -/
structure WS (w : World) (b g : Nat) (big : Bool) (chunk : Int) (out : List Int) : Prop where
  ex : ∃ v lr, BufA w b 1 g 82 (cellsW v lr big chunk) out
/-- What a step that writes leaves. -/
structure WStep (w w' : World) (b g g' : Nat) (big : Bool) (chunk : Int) (out' : List Int) : Prop where
  now : WS w' b g' big chunk out'
  row : g' = g ∨ w.heap.size ≤ g'
  kept : Kp2 w w' b g
def WP (v : Value) (b g : Nat) (big : Bool) (chunk : Int) (out' : List Int) (w : World) (e : Ending) (w' : World) : Prop := e = .returned v ∧ ∃ g', WStep w w' b g g' big chunk out'
theorem cellsW_of {cs : Array Value} {v v' : Value} {lr lr' : Int} {big : Bool} {chunk : Int} (hs : cs.size = 7) (h : ∀ i, i < 1 ∨ 1 + 2 < i → cs[i]? = (cellsW v lr big chunk)[i]?) (h1 : cs[1]? = some v') (h2 : cs[1 + 1]? = some (.int .i64 0)) (h3 : cs[1 + 2]? = some (.int .i8 lr')) : cs = cellsW v' lr' big chunk := by
  apply Array.ext_getElem?
  intro i
  match i with
  | 0 => exact h 0 (by omega)
  | 1 => exact h1
  | 2 => exact h2
  | 3 => exact h3
  | 4 => exact h 4 (by omega)
  | 5 => exact h 5 (by omega)
  | 6 => exact h 6 (by omega)
  | i + 7 =>
    rw [Array.getElem?_eq_none (by omega), Array.getElem?_eq_none]
    show 7 ≤ i + 7
    omega
theorem WP.of {r : Value} {b g : Nat} {v : Value} {lr : Int} {big : Bool} {chunk : Int} {out' : List Int} {w w' : World} {e : Ending} (h : BufP r b 1 g 82 (cellsW v lr big chunk) out' w e w') : WP r b g big chunk out' w e w' := by
  obtain ⟨he, g', cs', hS⟩ := h
  refine ⟨he, g', ⟨?_, hS.row, hS.kept⟩⟩
  obtain ⟨lr', h3⟩ := hS.now.lr
  have hv : ∃ v', cs'[1]? = some v' := by
    rcases hS.now.row with ⟨h, _⟩ | ⟨_, cap, cur, h, _⟩
    · exact ⟨_, h⟩
    · exact ⟨_, h⟩
  obtain ⟨v', h1⟩ := hv
  have e := cellsW_of (show cs'.size = 7 from hS.size) hS.cells h1 hS.now.off h3
  exact ⟨v', lr', e ▸ hS.now⟩
section
variable {w w' w'' : World} {b g g' g'' : Nat} {big : Bool} {chunk : Int} {out out' out'' : List Int}
theorem WS.lt (h : WS w b g big chunk out) : b < w.heap.size := by obtain ⟨v, lr, h⟩ := h.ex; exact h.lt
theorem WS.ltg (h : WS w b g big chunk out) : g < w.heap.size := by obtain ⟨v, lr, h⟩ := h.ex; exact h.ltg
theorem WS.bl (h : WS w b g big chunk out) (k : Below w.heap.size w w') : WS w' b g big chunk out := by obtain ⟨v, lr, h⟩ := h.ex; exact ⟨v, lr, h.bl k⟩
theorem WS.grown {r : Option Nat} (h : WS w b g big chunk out) (k : w.grownBy w' r) (hb : some b ≠ r) (hg : some g ≠ r) : WS w' b g big chunk out := by obtain ⟨v, lr, h⟩ := h.ex; exact ⟨v, lr, h.grown k hb hg⟩
theorem WS.c5 (h : WS w b g big chunk out) : w.cell? ⟨b, 5, none⟩ = some (.bool big) := by obtain ⟨v, lr, h⟩ := h.ex; exact (xb_cell h.blk 5).trans rfl
theorem WS.c6 (h : WS w b g big chunk out) : w.cell? ⟨b, 6, none⟩ = some (.int .i64 chunk) := by obtain ⟨v, lr, h⟩ := h.ex; exact (xb_cell h.blk 6).trans rfl
theorem WStep.trans (h : WStep w w' b g g' big chunk out') (k : WStep w' w'' b g' g'' big chunk out'') : WStep w w'' b g g'' big chunk out'' :=
  ⟨k.now, by
    have := h.kept.size
    rcases k.row with rfl | hk
    · exact h.row
    · exact .inr (by omega), kp2_comp h.kept k.kept h.row⟩
theorem WStep.after (h : WStep w w' b g g' big chunk out') (k : Below w'.heap.size w' w'') : WStep w w'' b g g' big chunk out' := ⟨h.now.bl k, h.row, kp2_bl h.kept k⟩
theorem WStep.of (h : WS w b g big chunk out) : WStep w w b g g big chunk out := ⟨h, .inl rfl, ⟨rfl, rfl, rfl, Nat.le_refl _, fun _ _ _ _ => rfl⟩⟩
theorem WStep.cell (h : WStep w w' b g g' big chunk out') {a : Addr} {v : Value} (hc : w.cell? a = some v) (hb : a.block ≠ b) (hg : a.block ≠ g) : w'.cell? a = some v :=
  (World.cell?_of_block (a := a) (h.kept.block a.block (World.block_lt_of_cell? w a hc) hb hg)).trans hc
theorem WStep.prior {w0 : World} (k : Below w0.heap.size w0 w) (h : WStep w w' b g g' big chunk out') (hz : g < w0.heap.size) : WStep w0 w' b g g' big chunk out' :=
  ⟨h.now, by have := h.row; have := k.size; omega, kp2_comp (kp2_of_bl k b g) h.kept (.inl rfl)⟩
theorem C_kp2 {A : Option Addr} {l : List Int} (h : Kd.C (Kd.int .u8) w A l.length l) (k : Kp2 w w' b g) (hb : ∀ a, A = some a → a.block ≠ b) (hg : ∀ a, A = some a → a.block ≠ g) : Kd.C (Kd.int .u8) w' A l.length l := by
  by_cases hn : 0 < l.length
  · obtain ⟨g0, o, rfl, hlt, hc⟩ := C_base h hn
    exact C_of h.2.1 (fun i hi => (World.cell?_of_block (a := ⟨g0, o + i, none⟩) (k.block g0 hlt (hb _ rfl) (hg _ rfl))).trans (hc i hi))
  · refine ⟨rfl, h.2.1, fun h0 => absurd h0 hn⟩
end
theorem ws_byte (b g : Nat) (big : Bool) (chunk : Int) (out : List Int) (x : Int) (w : World) (h : WS w b g big chunk out) (hlim : out.length + 1 ≤ 140737488355328) :
    Calls Tryd.prog 59 #[.pointer (some ⟨b, 1, none⟩), .int .u8 x] w (WP .nilIface b g big chunk (out ++ [x]) w) := by
  obtain ⟨v, lr, h⟩ := h.ex
  exact (writeByte_any b 1 g _ _ out x w h hlim).mono fun e w' => WP.of
theorem ws_write (b g : Nat) (big : Bool) (chunk : Int) (out p : List Int) (A : Option Addr) (cp : Nat) (w : World) (h : WS w b g big chunk out) (hC : Kd.C (Kd.int .u8) w A p.length p) (hab : ∀ a, A = some a → a.block ≠ b) (hlim : out.length + p.length ≤ 140737488355328) :
    Calls Tryd.prog 58 #[.pointer (some ⟨b, 1, none⟩), .slice A p.length cp] w (WP (.tuple #[.int .i64 p.length, .nilIface]) b g big chunk (out ++ p) w) := by
  obtain ⟨v, lr, h⟩ := h.ex
  exact (write_any b 1 g _ _ out p A cp w h hC hab hlim).mono fun e w' => WP.of
end Ses
end Go.Proofs.YtdnahdddkagfhaaDoor.X
/- Digits of base 256, in plain lists. -/
set_option linter.unusedVariables false
namespace Go.Proofs.YtdnahdddkagfhaaDoor.X.Dg
def plainL : Nat → Int → List Int
  | 0, _ => []
  | j + 1, x => (x % 256) :: plainL j (x / 256)
/-- The significant digits of base 256, the least one first. -/
def dgF : Nat → Int → List Int
  | 0, _ => []
  | j + 1, x => if x ≤ 0 then [] else (x % 256) :: dgF j (x / 256)
def digs : List Int → Int
  | [] => 0
  | d :: r => d + 256 * digs r
theorem dgF_len : ∀ (j : Nat) (x : Int), (dgF j x).length ≤ j
  | 0, _ => Nat.le_refl _
  | j + 1, x => by
    rw [dgF]
    split
    · simp
    · have := dgF_len j (x / 256)
      simp; omega
theorem dgF_byt : ∀ (j : Nat) (x : Int), ∀ d ∈ dgF j x, 0 ≤ d ∧ d ≤ 255
  | 0, _, d, h => by simp [dgF] at h
  | j + 1, x, d, h => by
    rw [dgF] at h
    split at h
    · simp at h
    · rcases List.mem_cons.1 h with rfl | h
      · omega
      · exact dgF_byt j _ d h
theorem dgF_zero : ∀ j : Nat, dgF j 0 = []
  | 0 => rfl
  | j + 1 => by rw [dgF, if_pos (by omega)]
theorem dgF_digs : ∀ (j : Nat) (x : Int), 0 ≤ x → x < 256 ^ j → digs (dgF j x) = x
  | 0, x, h0, h1 => by simp at h1; rw [dgF, digs]; omega
  | j + 1, x, h0, h1 => by
    rw [Int.pow_succ] at h1
    rw [dgF]
    split
    · rw [digs]; omega
    · rw [digs, dgF_digs j (x / 256) (by omega) (by omega)]; omega
theorem plainL_zero : ∀ j : Nat, plainL j 0 = List.replicate j 0
  | 0 => rfl
  | j + 1 => by
    rw [plainL, List.replicate_succ]
    have := plainL_zero j
    simp [this]
theorem plainL_dgF : ∀ (j : Nat) (x : Int), 0 ≤ x → x < 256 ^ j → plainL j x = dgF j x ++ List.replicate (j - (dgF j x).length) 0
  | 0, x, h0, h1 => rfl
  | j + 1, x, h0, h1 => by
    rw [Int.pow_succ] at h1
    rw [dgF]
    split
    · have hx : x = 0 := by omega
      subst hx
      rw [plainL_zero]
      simp
    · rw [plainL, plainL_dgF j (x / 256) (by omega) (by omega)]
      simp
theorem dgF_pos : ∀ (j : Nat) (x : Int), 0 < x → x < 256 ^ j → dgF j x ≠ []
  | 0, x, h0, h1 => by rw [Int.pow_zero] at h1; omega
  | j + 1, x, h0, h1 => by rw [dgF, if_neg (by omega)]; simp
theorem dgF_last : ∀ (j : Nat) (x : Int), 0 ≤ x → x < 256 ^ j → ∀ d, (dgF j x).getLast? = some d → d ≠ 0
  | 0, x, h0, h1, d, h => by simp [dgF] at h
  | j + 1, x, h0, h1, d, h => by
    rw [Int.pow_succ] at h1
    rw [dgF] at h
    split at h
    · simp at h
    · by_cases hq : x / 256 = 0
      · rw [hq, dgF_zero] at h
        simp at h
        omega
      · have hne : dgF j (x / 256) ≠ [] := dgF_pos j (x / 256) (by omega) (by omega)
        rw [List.getLast?_cons] at h
        have : (dgF j (x / 256)).getLast? = some d := by
          rw [List.getLast?_eq_some_getLast hne] at h ⊢
          simpa using h
        exact dgF_last j (x / 256) (by omega) (by omega) d this
theorem dgF_short : ∀ (j m : Nat) (x : Int), 0 ≤ x → x < 256 ^ m → (dgF j x).length ≤ m
  | 0, m, x, _, _ => Nat.zero_le _
  | j + 1, m, x, h0, h1 => by
    rw [dgF]
    split
    · exact Nat.zero_le _
    · match m, h1 with
      | 0, h1 => simp at h1; omega
      | m + 1, h1 =>
        rw [Int.pow_succ] at h1
        have := dgF_short j m (x / 256) (by omega) (by omega)
        simp; omega
theorem dropWhile_zeros : ∀ (z : Nat) (l : List Int), (l = [] ∨ ∃ d r, l = d :: r ∧ d ≠ 0) → (List.replicate z 0 ++ l).dropWhile (· == 0) = l
  | 0, l, h => by
    rcases h with rfl | ⟨d, r, rfl, hd⟩
    · rfl
    · rw [List.replicate_zero, List.nil_append, List.dropWhile_cons]
      simp [hd]
  | z + 1, l, h => by
    rw [List.replicate_succ, List.cons_append, List.dropWhile_cons]
    simp only [beq_self_eq_true, if_true]
    exact dropWhile_zeros z l h
theorem trim_dg (j : Nat) (x : Int) (h0 : 0 ≤ x) (h1 : x < 256 ^ j) : ((plainL j x).reverse).dropWhile (· == 0) = (dgF j x).reverse := by
  rw [plainL_dgF j x h0 h1, List.reverse_append, List.reverse_replicate]
  apply dropWhile_zeros
  by_cases h : dgF j x = []
  · left; rw [h]; rfl
  · right
    obtain ⟨d, r, hr⟩ : ∃ d r, (dgF j x).reverse = d :: r := by
      cases hq : (dgF j x).reverse with
      | nil => exact absurd (List.reverse_eq_nil_iff.1 hq) h
      | cons d r => exact ⟨d, r, rfl⟩
    refine ⟨d, r, hr, dgF_last j x h0 h1 d ?_⟩
    rw [← List.head?_reverse, hr]
    rfl
/-- The order of the digits, the least one first, of numbers of as many digits. -/
theorem dgF_inj (j : Nat) (x y : Int) (hx0 : 0 ≤ x) (hy0 : 0 ≤ y) (hx : x < 256 ^ j) (hy : y < 256 ^ j) (h : dgF j x = dgF j y) : x = y := by
  rw [← dgF_digs j x hx0 hx, h, dgF_digs j y hy0 hy]
theorem plainL_len : ∀ (j : Nat) (x : Int), (plainL j x).length = j
  | 0, _ => rfl
  | j + 1, x => by rw [plainL, List.length_cons, plainL_len j]
theorem plainL_byt : ∀ (j : Nat) (x : Int), ∀ d ∈ plainL j x, 0 ≤ d ∧ d ≤ 255
  | 0, _, d, h => by simp [plainL] at h
  | j + 1, x, d, h => by
    rw [plainL] at h
    rcases List.mem_cons.1 h with rfl | h
    · omega
    · exact plainL_byt j _ d h
/-- What bytes spell, the most significant one ahead. -/
def beV : List Int → Int
  | [] => 0
  | d :: r => d * 256 ^ r.length + beV r
theorem beV_bd : ∀ l : List Int, (∀ d ∈ l, 0 ≤ d ∧ d ≤ 255) → 0 ≤ beV l ∧ beV l < 256 ^ l.length
  | [], _ => by simp [beV]
  | d :: r, h => by
    have ih := beV_bd r (fun x hx => h x (by simp [hx]))
    have hd := h d (by simp)
    rw [beV, List.length_cons, Int.pow_succ]
    generalize (256 : Int) ^ r.length = P at *
    have h1 : 0 ≤ d * P := Int.mul_nonneg hd.1 (by omega)
    have h2 : d * P ≤ 255 * P := Int.mul_le_mul_of_nonneg_right hd.2 (by omega)
    omega
theorem beV_snoc : ∀ (l : List Int) (d : Int), beV (l ++ [d]) = beV l * 256 + d
  | [], d => by simp [beV]
  | a :: l, d => by
    rw [List.cons_append, beV, beV, beV_snoc l d, List.length_append, List.length_singleton, Int.pow_succ, Int.add_mul, Int.mul_assoc]
    omega
theorem beV_rev : ∀ ds : List Int, beV ds.reverse = digs ds
  | [] => rfl
  | d :: ds => by rw [List.reverse_cons, beV_snoc, beV_rev ds, digs]; omega
theorem u8_lt {a b : Int} (ha : 0 ≤ a ∧ a ≤ 255) (hb : 0 ≤ b ∧ b ≤ 255) : (UInt8.ofNat a.toNat < UInt8.ofNat b.toNat) ↔ a < b := by
  rw [UInt8.lt_iff_toNat_lt, UInt8.toNat_ofNat', UInt8.toNat_ofNat']
  omega
theorem cmp_be : ∀ (a b : List Int), a.length = b.length → (∀ d ∈ a, 0 ≤ d ∧ d ≤ 255) → (∀ d ∈ b, 0 ≤ d ∧ d ≤ 255) → Go.Lib.compareBytes (Go.Lib.bytesOf a) (Go.Lib.bytesOf b) = if beV a < beV b then -1 else if beV b < beV a then 1 else 0
  | [], [], _, _, _ => by simp [beV, Go.Lib.bytesOf, Go.Lib.compareBytes]
  | [], _ :: _, h, _, _ => by simp at h
  | _ :: _, [], h, _, _ => by simp at h
  | x :: a, y :: b, h, ha, hb => by
    have hl : a.length = b.length := by simpa using h
    have ih := cmp_be a b hl (fun d hd => ha d (by simp [hd])) (fun d hd => hb d (by simp [hd]))
    have hx := ha x (by simp)
    have hy := hb y (by simp)
    have bx := beV_bd a (fun d hd => ha d (by simp [hd]))
    have bY := beV_bd b (fun d hd => hb d (by simp [hd]))
    have eA : beV (x :: a) = x * 256 ^ b.length + beV a := by rw [beV, hl]
    have eB : beV (y :: b) = y * 256 ^ b.length + beV b := rfl
    rw [hl] at bx
    generalize beV (x :: a) = VA at *
    generalize beV (y :: b) = VB at *
    show (if UInt8.ofNat x.toNat < UInt8.ofNat y.toNat then (-1 : Int) else if UInt8.ofNat y.toNat < UInt8.ofNat x.toNat then 1 else Go.Lib.compareBytes (Go.Lib.bytesOf a) (Go.Lib.bytesOf b)) = _
    simp only [u8_lt hx hy, u8_lt hy hx]
    rw [ih]
    generalize (256 : Int) ^ b.length = P at *
    by_cases h1 : x < y
    · rw [if_pos h1]
      have : (x + 1) * P ≤ y * P := Int.mul_le_mul_of_nonneg_right (by omega) (by omega)
      rw [Int.add_mul] at this
      rw [if_pos (by omega)]
    · rw [if_neg h1]
      by_cases h2 : y < x
      · rw [if_pos h2]
        have : (y + 1) * P ≤ x * P := Int.mul_le_mul_of_nonneg_right (by omega) (by omega)
        rw [Int.add_mul] at this
        rw [if_neg (by omega), if_pos (by omega)]
      · rw [if_neg h2]
        have : x = y := by omega
        subst this
        by_cases h3 : beV a < beV b
        · rw [if_pos h3, if_pos (show VA < VB by omega)]
        · rw [if_neg h3, if_neg (show ¬ VA < VB by omega)]
          by_cases h4 : beV b < beV a
          · rw [if_pos h4, if_pos (show VB < VA by omega)]
          · rw [if_neg h4, if_neg (show ¬ VB < VA by omega)]
def dg (x : Int) : List Int := dgF 8 x
/-- A compressed number. -/
def packed (x : Int) : List Int := ((dg x).length : Int) :: (dg x).reverse
theorem dg_len (x : Int) : (dg x).length ≤ 8 := dgF_len 8 x
theorem packed_byt (x : Int) : ∀ d ∈ packed x, 0 ≤ d ∧ d ≤ 255 := by
  intro d hd
  rcases List.mem_cons.1 hd with rfl | hd
  · have := dg_len x; omega
  · have h : d ∈ dg x := by simpa using hd
    exact dgF_byt 8 x d h
theorem dg_low (x : Int) (h0 : 0 < x) (h1 : x < 256 ^ 8) : (256 : Int) ^ ((dg x).length - 1) ≤ x := by
  have := fun h => dgF_short 8 ((dg x).length - 1) x (by omega) h
  rcases Int.lt_or_le x (256 ^ ((dg x).length - 1)) with h | h
  · have h2 := this h
    have h3 : (dg x).length ≠ 0 := by
      intro e
      exact dgF_pos 8 x h0 h1 (List.eq_nil_of_length_eq_zero e)
    unfold dg at h2 h3
    omega
  · exact h
theorem dg_high (x : Int) (h0 : 0 ≤ x) (h1 : x < 256 ^ 8) : x < 256 ^ (dg x).length := by
  have h := beV_bd (dg x).reverse (fun d hd => dgF_byt 8 x d (List.mem_reverse.1 hd))
  rw [beV_rev, List.length_reverse] at h
  have e : digs (dg x) = x := dgF_digs 8 x h0 h1
  omega
theorem pow_mono (m n : Nat) (h : m ≤ n) : (256 : Int) ^ m ≤ 256 ^ n := by
  obtain ⟨d, rfl⟩ := Nat.exists_eq_add_of_le h
  rw [Int.pow_add]
  have h1 : (0 : Int) < 256 ^ m := Int.pow_pos (by omega)
  have h2 : (0 : Int) < 256 ^ d := Int.pow_pos (by omega)
  have h3 : 256 ^ m * 1 ≤ 256 ^ m * (256 : Int) ^ d := Int.mul_le_mul_of_nonneg_left (by omega) (by omega)
  omega
theorem cmp_packed (a b : Int) (ha0 : 0 ≤ a) (ha : a < 256 ^ 8) (hb0 : 0 ≤ b) (hb : b < 256 ^ 8) : Go.Lib.compareBytes (Go.Lib.bytesOf (packed a)) (Go.Lib.bytesOf (packed b)) = if a < b then -1 else if b < a then 1 else 0 := by
  by_cases hl : (dg a).length = (dg b).length
  · rw [cmp_be _ _ (by simp [packed, hl]) (packed_byt a) (packed_byt b)]
    have ea : beV (packed a) = ((dg b).length : Int) * 256 ^ (dg b).length + a := by
      have h : digs (dg a) = a := dgF_digs 8 a ha0 ha
      rw [packed, beV, beV_rev, h, List.length_reverse, hl]
    have eb : beV (packed b) = ((dg b).length : Int) * 256 ^ (dg b).length + b := by
      have h : digs (dg b) = b := dgF_digs 8 b hb0 hb
      rw [packed, beV, beV_rev, h, List.length_reverse]
    rw [ea, eb]
    generalize ((dg b).length : Int) * 256 ^ (dg b).length = Q
    by_cases h1 : a < b
    · rw [if_pos h1, if_pos (by omega)]
    · rw [if_neg h1, if_neg (by omega)]
      by_cases h2 : b < a
      · rw [if_pos h2, if_pos (by omega)]
      · rw [if_neg h2, if_neg (by omega)]
  · have la := dg_len a
    have lb := dg_len b
    have e : Go.Lib.compareBytes (Go.Lib.bytesOf (packed a)) (Go.Lib.bytesOf (packed b)) = if ((dg a).length : Int) < (dg b).length then -1 else 1 := by
      show (if UInt8.ofNat ((dg a).length : Int).toNat < UInt8.ofNat ((dg b).length : Int).toNat then (-1 : Int) else if UInt8.ofNat ((dg b).length : Int).toNat < UInt8.ofNat ((dg a).length : Int).toNat then 1 else _) = _
      simp only [u8_lt (show 0 ≤ ((dg a).length : Int) ∧ ((dg a).length : Int) ≤ 255 by omega) (show 0 ≤ ((dg b).length : Int) ∧ ((dg b).length : Int) ≤ 255 by omega), u8_lt (show 0 ≤ ((dg b).length : Int) ∧ ((dg b).length : Int) ≤ 255 by omega) (show 0 ≤ ((dg a).length : Int) ∧ ((dg a).length : Int) ≤ 255 by omega)]
      by_cases h : ((dg a).length : Int) < (dg b).length
      · rw [if_pos h, if_pos h]
      · rw [if_neg h, if_neg h, if_pos (by omega)]
    rw [e]
    by_cases h : ((dg a).length : Int) < (dg b).length
    · have hb1 : 0 < b := by
        rcases Int.lt_or_le 0 b with h' | h'
        · exact h'
        · have : b = 0 := by omega
          subst this
          have : (dg 0).length = 0 := by unfold dg; rw [dgF_zero]; rfl
          omega
      have h1 := dg_high a ha0 ha
      have h2 := dg_low b hb1 hb
      have h3 := pow_mono (dg a).length ((dg b).length - 1) (by omega)
      rw [if_pos h, if_pos (by omega)]
    · have ha1 : 0 < a := by
        rcases Int.lt_or_le 0 a with h' | h'
        · exact h'
        · have : a = 0 := by omega
          subst this
          have : (dg 0).length = 0 := by unfold dg; rw [dgF_zero]; rfl
          omega
      have h1 := dg_high b hb0 hb
      have h2 := dg_low a ha1 ha
      have h3 := pow_mono (dg b).length ((dg a).length - 1) (by omega)
      rw [if_neg h, if_neg (by omega), if_pos (by omega)]
end Go.Proofs.YtdnahdddkagfhaaDoor.X.Dg
/- A session writes numbers: the rows that binary's Put.. fill, zzTrimZeros. -/
namespace Go.Proofs.YtdnahdddkagfhaaDoor.X
open Go.RowKit Go.Proofs.YtdnahdddkagfhaaDoorW.PrintWords Go.Proofs.YtdnahdddkagfhaaDoorW.PrintMore
attribute [local go_sem] setCell_drewN alloc_drewN
set_option linter.unusedVariables false
set_option linter.unusedSimpArgs false
namespace Ses
/-- A row of bytes at block t. -/
def RowAt (w : World) (t : Nat) (l : List Int) : Prop := ∀ i : Nat, i < l.length → w.cell? ⟨t, i, none⟩ = some (.int .u8 (l.getD i 0))
theorem le_cells : ∀ (k v : Nat), Lib.byteCells (Lib.leBytes k v) = nums .u8 (Dg.plainL k (v : Int))
  | 0, _ => rfl
  | k + 1, v => by
    have ih := le_cells k (v / 256)
    rw [Int.natCast_ediv] at ih
    show Value.int .u8 (((v % 256).toUInt8).toNat : Int) :: Lib.byteCells (Lib.leBytes k (v / 256)) = Value.int .u8 ((v : Int) % 256) :: nums .u8 (Dg.plainL k ((v : Int) / 256))
    rw [ih, Lib.toUInt8_mod, Int.natCast_emod]
    rfl
theorem be_cells (k v : Nat) : Lib.byteCells (Lib.beBytes k v) = nums .u8 (Dg.plainL k (v : Int)).reverse := by
  have h := le_cells k v
  unfold Lib.byteCells at h ⊢
  rw [Lib.beBytes, List.map_reverse, h, nums, nums, List.map_reverse]
/-- What a Put leaves: the row holds these bytes; all else is as it was. -/
def PutP (t : Nat) (l : List Int) (w : World) (e : Ending) (w' : World) : Prop := e = .returned (.tuple #[]) ∧ RowAt w' t l ∧ w.grownBy w' (some t)
theorem tape_setCells (b : Nat) : ∀ (vs : List Value) (o : Nat) (w : World), (w.setCells b o vs).tape = w.tape
  | [], _, _ => rfl
  | v :: vs, o, w => by
    show ((w.setCell ⟨b, o, none⟩ v).setCells b (o + 1) vs).tape = _
    rw [tape_setCells b vs]
    rfl
theorem size_setCellsS (b : Nat) : ∀ (vs : List Value) (o : Nat) (w : World), (w.setCells b o vs).heap.size = w.heap.size
  | [], _, _ => rfl
  | v :: vs, o, w => by
    show ((w.setCell ⟨b, o, none⟩ v).setCells b (o + 1) vs).heap.size = _
    rw [size_setCellsS b vs, World.size_setCell]
theorem putP_of (t : Nat) (T : TypeId) (l : List Int) (cur : Array Value) (w : World) (hrow : w.heap[t]? = some (.cells cur 5 (0, 0))) (hs : cur.size = l.length) :
    RowAt ((w.alloc (.cells #[] T)).setCells t 0 (nums .u8 l)) t l ∧ w.grownBy ((w.alloc (.cells #[] T)).setCells t 0 (nums .u8 l)) (some t) := by
  have hrow' := xb_alloc (o' := .cells #[] T) hrow
  refine ⟨fun i hi => ?_, ⟨(World.os_setCells ..), tape_setCells .., World.output_setCells .., ?_, fun k hk hne => ?_⟩⟩
  · have h := World.cell?_setCells_in t (nums .u8 l) 0 (w.alloc (.cells #[] T)) (fun j hj => by
      rw [nums_length] at hj
      rw [Nat.zero_add, xb_cell hrow', Array.getElem?_eq_getElem (by omega)]
      rfl) i (by rw [nums_length]; exact hi)
    rw [Nat.zero_add] at h
    rw [h]
    simp [nums, List.getD_eq_getElem?_getD, List.getElem?_eq_getElem hi]
  · rw [size_setCellsS, World.size_alloc]
    omega
  · rw [World.heap_setCells_other _ t 0 _ (by rw [World.size_alloc]; omega) (fun e => hne (by rw [e]))]
    exact Below.heap_alloc w _ k hk
theorem bePut2 (t c v : Nat) (cur : Array Value) (w : World) (hv : v < 65536) (hrow : w.heap[t]? = some (.cells cur 5 (0, 0))) (hs : cur.size = 2) :
    Calls Tryd.prog 62 #[.agg #[], .slice (some ⟨t, 0, none⟩) 2 c, .int .u16 v] w (PutP t (Dg.plainL 2 (v : Int)).reverse w) := by
  have hc : ∀ i, i < 2 → w.cell? ⟨t, 0 + i, none⟩ = some (cur.getD i (.int .u8 0)) := fun i hi => by
    rw [Nat.zero_add, xb_cell hrow, Array.getElem?_eq_getElem (by omega), Array.getD_eq_getD_getElem?, Array.getElem?_eq_getElem (by omega)]
    rfl
  have hf : ∀ i, w.frozen? ⟨t, 0 + i, none⟩ = false := fun i => blk_free hrow (0 + i)
  refine (Tryd.binary_BE_PutUint16 t 0 2 c v hv _ _ w (Nat.le_refl _) (hc 0 (by omega)) (hc 1 (by omega)) (hf 0) (hf 1)).mono ?_
  rintro e w' ⟨rfl, rfl⟩
  rw [be_cells]
  obtain ⟨h1, h2⟩ := putP_of t _ (Dg.plainL 2 (v : Int)).reverse cur w hrow (by rw [hs]; first | rw [List.length_reverse, Dg.plainL_len] | rw [Dg.plainL_len])
  exact ⟨rfl, h1, h2⟩
theorem bePut4 (t c v : Nat) (cur : Array Value) (w : World) (hv : v < 4294967296) (hrow : w.heap[t]? = some (.cells cur 5 (0, 0))) (hs : cur.size = 4) :
    Calls Tryd.prog 63 #[.agg #[], .slice (some ⟨t, 0, none⟩) 4 c, .int .u32 v] w (PutP t (Dg.plainL 4 (v : Int)).reverse w) := by
  have hc : ∀ i, i < 4 → w.cell? ⟨t, 0 + i, none⟩ = some (cur.getD i (.int .u8 0)) := fun i hi => by
    rw [Nat.zero_add, xb_cell hrow, Array.getElem?_eq_getElem (by omega), Array.getD_eq_getD_getElem?, Array.getElem?_eq_getElem (by omega)]
    rfl
  have hf : ∀ i, w.frozen? ⟨t, 0 + i, none⟩ = false := fun i => blk_free hrow (0 + i)
  refine (Tryd.binary_BE_PutUint32 t 0 4 c v hv _ _ _ _ w (Nat.le_refl _) (hc 0 (by omega)) (hc 1 (by omega)) (hc 2 (by omega)) (hc 3 (by omega)) (hf 0) (hf 1) (hf 2) (hf 3)).mono ?_
  rintro e w' ⟨rfl, rfl⟩
  rw [be_cells]
  obtain ⟨h1, h2⟩ := putP_of t _ (Dg.plainL 4 (v : Int)).reverse cur w hrow (by rw [hs]; first | rw [List.length_reverse, Dg.plainL_len] | rw [Dg.plainL_len])
  exact ⟨rfl, h1, h2⟩
theorem bePut8 (t c v : Nat) (cur : Array Value) (w : World) (hv : v < 18446744073709551616) (hrow : w.heap[t]? = some (.cells cur 5 (0, 0))) (hs : cur.size = 8) :
    Calls Tryd.prog 60 #[.agg #[], .slice (some ⟨t, 0, none⟩) 8 c, .int .u64 v] w (PutP t (Dg.plainL 8 (v : Int)).reverse w) := by
  have hc : ∀ i, i < 8 → w.cell? ⟨t, 0 + i, none⟩ = some (cur.getD i (.int .u8 0)) := fun i hi => by
    rw [Nat.zero_add, xb_cell hrow, Array.getElem?_eq_getElem (by omega), Array.getD_eq_getD_getElem?, Array.getElem?_eq_getElem (by omega)]
    rfl
  have hf : ∀ i, w.frozen? ⟨t, 0 + i, none⟩ = false := fun i => blk_free hrow (0 + i)
  refine (Tryd.binary_BE_PutUint64 t 0 8 c v hv _ _ _ _ _ _ _ _ w (Nat.le_refl _) (hc 0 (by omega)) (hc 1 (by omega)) (hc 2 (by omega)) (hc 3 (by omega)) (hc 4 (by omega)) (hc 5 (by omega)) (hc 6 (by omega)) (hc 7 (by omega)) (hf 0) (hf 1) (hf 2) (hf 3) (hf 4) (hf 5) (hf 6) (hf 7)).mono ?_
  rintro e w' ⟨rfl, rfl⟩
  rw [be_cells]
  obtain ⟨h1, h2⟩ := putP_of t _ (Dg.plainL 8 (v : Int)).reverse cur w hrow (by rw [hs]; first | rw [List.length_reverse, Dg.plainL_len] | rw [Dg.plainL_len])
  exact ⟨rfl, h1, h2⟩
theorem lePut2 (t c v : Nat) (cur : Array Value) (w : World) (hv : v < 65536) (hrow : w.heap[t]? = some (.cells cur 5 (0, 0))) (hs : cur.size = 2) :
    Calls Tryd.prog 64 #[.agg #[], .slice (some ⟨t, 0, none⟩) 2 c, .int .u16 v] w (PutP t (Dg.plainL 2 (v : Int)) w) := by
  have hc : ∀ i, i < 2 → w.cell? ⟨t, 0 + i, none⟩ = some (cur.getD i (.int .u8 0)) := fun i hi => by
    rw [Nat.zero_add, xb_cell hrow, Array.getElem?_eq_getElem (by omega), Array.getD_eq_getD_getElem?, Array.getElem?_eq_getElem (by omega)]
    rfl
  have hf : ∀ i, w.frozen? ⟨t, 0 + i, none⟩ = false := fun i => blk_free hrow (0 + i)
  refine (Tryd.binary_LE_PutUint16 t 0 2 c v hv _ _ w (Nat.le_refl _) (hc 0 (by omega)) (hc 1 (by omega)) (hf 0) (hf 1)).mono ?_
  rintro e w' ⟨rfl, rfl⟩
  rw [le_cells]
  obtain ⟨h1, h2⟩ := putP_of t _ (Dg.plainL 2 (v : Int)) cur w hrow (by rw [hs]; first | rw [List.length_reverse, Dg.plainL_len] | rw [Dg.plainL_len])
  exact ⟨rfl, h1, h2⟩
theorem lePut4 (t c v : Nat) (cur : Array Value) (w : World) (hv : v < 4294967296) (hrow : w.heap[t]? = some (.cells cur 5 (0, 0))) (hs : cur.size = 4) :
    Calls Tryd.prog 65 #[.agg #[], .slice (some ⟨t, 0, none⟩) 4 c, .int .u32 v] w (PutP t (Dg.plainL 4 (v : Int)) w) := by
  have hc : ∀ i, i < 4 → w.cell? ⟨t, 0 + i, none⟩ = some (cur.getD i (.int .u8 0)) := fun i hi => by
    rw [Nat.zero_add, xb_cell hrow, Array.getElem?_eq_getElem (by omega), Array.getD_eq_getD_getElem?, Array.getElem?_eq_getElem (by omega)]
    rfl
  have hf : ∀ i, w.frozen? ⟨t, 0 + i, none⟩ = false := fun i => blk_free hrow (0 + i)
  refine (Tryd.binary_LE_PutUint32 t 0 4 c v hv _ _ _ _ w (Nat.le_refl _) (hc 0 (by omega)) (hc 1 (by omega)) (hc 2 (by omega)) (hc 3 (by omega)) (hf 0) (hf 1) (hf 2) (hf 3)).mono ?_
  rintro e w' ⟨rfl, rfl⟩
  rw [le_cells]
  obtain ⟨h1, h2⟩ := putP_of t _ (Dg.plainL 4 (v : Int)) cur w hrow (by rw [hs]; first | rw [List.length_reverse, Dg.plainL_len] | rw [Dg.plainL_len])
  exact ⟨rfl, h1, h2⟩
theorem lePut8 (t c v : Nat) (cur : Array Value) (w : World) (hv : v < 18446744073709551616) (hrow : w.heap[t]? = some (.cells cur 5 (0, 0))) (hs : cur.size = 8) :
    Calls Tryd.prog 66 #[.agg #[], .slice (some ⟨t, 0, none⟩) 8 c, .int .u64 v] w (PutP t (Dg.plainL 8 (v : Int)) w) := by
  have hc : ∀ i, i < 8 → w.cell? ⟨t, 0 + i, none⟩ = some (cur.getD i (.int .u8 0)) := fun i hi => by
    rw [Nat.zero_add, xb_cell hrow, Array.getElem?_eq_getElem (by omega), Array.getD_eq_getD_getElem?, Array.getElem?_eq_getElem (by omega)]
    rfl
  have hf : ∀ i, w.frozen? ⟨t, 0 + i, none⟩ = false := fun i => blk_free hrow (0 + i)
  refine (Tryd.binary_LE_PutUint64 t 0 8 c v hv _ _ _ _ _ _ _ _ w (Nat.le_refl _) (hc 0 (by omega)) (hc 1 (by omega)) (hc 2 (by omega)) (hc 3 (by omega)) (hc 4 (by omega)) (hc 5 (by omega)) (hc 6 (by omega)) (hc 7 (by omega)) (hf 0) (hf 1) (hf 2) (hf 3) (hf 4) (hf 5) (hf 6) (hf 7)).mono ?_
  rintro e w' ⟨rfl, rfl⟩
  rw [le_cells]
  obtain ⟨h1, h2⟩ := putP_of t _ (Dg.plainL 8 (v : Int)) cur w hrow (by rw [hs]; first | rw [List.length_reverse, Dg.plainL_len] | rw [Dg.plainL_len])
  exact ⟨rfl, h1, h2⟩
theorem dropW : ∀ (l : List Int) (j : Nat), j ≤ l.length → (∀ i, i < j → l.getD i 0 = 0) → (j = l.length ∨ l.getD j 0 ≠ 0) → l.drop j = l.dropWhile (· == 0)
  | [], j, hj, _, _ => by simp
  | x :: l, 0, _, _, h => by
    rcases h with h | h
    · simp at h
    · have hx : x ≠ 0 := by simpa using h
      rw [List.drop_zero, List.dropWhile_cons]
      simp [hx]
  | x :: l, j + 1, hj, h0, h => by
    have hx : x = 0 := by simpa using h0 0 (by omega)
    subst hx
    rw [List.drop_succ_cons, List.dropWhile_cons]
    simp only [beq_self_eq_true, if_true]
    refine dropW l j (by simpa using hj) (fun i hi => ?_) ?_
    · simpa using h0 (i + 1) (by omega)
    · rcases h with h | h
      · exact .inl (by simpa using h)
      · exact .inr (by simpa using h)
end Ses
/-- What zzTrimZeros gives: what is behind the zeros. -/
def Ses.TrimP (t : Nat) (p : List Int) (w : World) (e : Ending) (w' : World) : Prop := ∃ o c, e = .returned (.slice (some ⟨t, o, none⟩) p.length c) ∧ Kd.C (Kd.int .u8) w (some ⟨t, o, none⟩) p.length p ∧ w' = w
set_option maxHeartbeats 1000000 in
set_option maxRecDepth 100000 in
/-- zzTrimZeros of a whole row. -/
theorem trimZeros_ok (t n : Nat) (l : List Int) (w : World) (hn : l.length = n) (hn0 : 0 < n) (hnm : n ≤ 100) (hc : Ses.RowAt w t l) :
    Calls Tryd.prog 61 #[.slice (some ⟨t, 0, none⟩) n n] w (Ses.TrimP t (l.dropWhile (· == 0)) w) := by
  have HC := Lib.hid hc
  have HN := Lib.hid hn
  clear hc hn
  go_enter Tryd.func61, Tryd.ntmps61
  go_wp2
  go_loop [0] (fun v => ∃ j o : Nat, j ≤ n ∧ v = .slice (some ⟨t, o, none⟩) (n - j) (n - j) ∧ Hid ((j < n → o = j) ∧ ∀ i, i < j → l.getD i 0 = 0)) (fun v => match v with | .slice _ m _ => m | _ => 0)
  case atStart => exact ⟨0, 0, Nat.zero_le _, rfl, Lib.hid ⟨fun _ => rfl, fun i hi => absurd hi (Nat.not_lt_zero _)⟩⟩
  case round =>
    obtain ⟨j, o, hj, rfl, HJ⟩ := hrel
    by_cases hlt : j < n
    · obtain rfl := HJ.out.1 hlt
      obtain ⟨y, hy⟩ : ∃ y, y = l.getD o 0 := ⟨_, rfl⟩
      have x0 := HC.out o (by rw [HN.out]; exact hlt)
      rw [← hy] at x0
      have HY := Lib.hid hy
      have k0 : 0 < n - o := by omega
      clear hy
      by_cases hz : y = 0
      · rw [hz] at x0
        have HZ := Lib.hid hz
        clear hz
        by_cases h1 : n - o = 1
        · have q1 : (n - o = 1) = True := eq_true h1
          clear h1
          go_wp2
          go_round
          case measure => (show n - o - 1 < n - o); omega
          case rel =>
            have h1 : n - o = 1 := of_eq_true q1
            refine ⟨o + 1, o, by omega, by rw [show n - (o + 1) = n - o - 1 by omega], Lib.hid ⟨fun h => absurd h (by omega), fun i hi => ?_⟩⟩
            rcases Nat.lt_or_ge i o with h | h
            · exact HJ.out.2 i h
            · obtain rfl : i = o := by omega
              rw [← HY.out]; exact HZ.out
        · have q1 : (n - o = 1) = False := eq_false h1
          clear h1
          go_wp2
          go_round
          case measure => (show n - o - 1 < n - o); omega
          case rel =>
            refine ⟨o + 1, o + 1, by omega, by rw [show n - (o + 1) = n - o - 1 by omega], Lib.hid ⟨fun h => rfl, fun i hi => ?_⟩⟩
            rcases Nat.lt_or_ge i o with h | h
            · exact HJ.out.2 i h
            · obtain rfl : i = o := by omega
              rw [← HY.out]; exact HZ.out
      · have t0 : (y == 0) = false := beq_eq_false_iff_ne.2 hz
        have HZ := Lib.hid hz
        clear hz
        go_wp2
        go_ret
        have e := Ses.dropW l o (by rw [HN.out]; omega) HJ.out.2 (.inr (by rw [← HY.out]; exact HZ.out))
        have hl : (l.drop o).length = n - o := by rw [List.length_drop, HN.out]
        rw [← e]
        refine ⟨o, n - o, by rw [hl]; rfl, ?_, rfl⟩
        have hC := C_of (k := .u8) (w := w) (l := l.drop o) (g := t) (o := o) (by omega) (fun i hi => by
          rw [HC.out (o + i) (by rw [HN.out]; omega)]
          simp [List.getD_eq_getElem?_getD, List.getElem?_drop])
        exact hC
    · have hjn : j = n := by omega
      have HJn := Lib.hid hjn
      have k1 : n - j = 0 := by omega
      have e := Ses.dropW l j (by rw [HN.out]; omega) HJ.out.2 (.inl (by rw [HN.out]; exact hjn))
      have hl : l.drop j = [] := by rw [List.drop_eq_nil_iff, HN.out]; omega
      rw [hl] at e
      rw [k1]
      have HE := Lib.hid e
      clear k1 hjn e hl
      go_wp2
      go_ret
      rw [← HE.out]
      exact ⟨o, 0, rfl, ⟨rfl, by simp, fun h => absurd h (Nat.lt_irrefl 0)⟩, rfl⟩
end Go.Proofs.YtdnahdddkagfhaaDoor.X
/- PutUint and PutInt of a session: compressed numbers, numbers of a size. -/
namespace Go.Proofs.YtdnahdddkagfhaaDoor.X
open Go.RowKit Go.Proofs.YtdnahdddkagfhaaDoorW.PrintWords Go.Proofs.YtdnahdddkagfhaaDoorW.PrintMore
attribute [local go_sem] setCell_drewN alloc_drewN
set_option linter.unusedVariables false
set_option linter.unusedSimpArgs false
namespace Ses
theorem ta_uint64_int64 (x : Value) (w : World) : (Instr.typeAssert (.iface 27 x) 20 2 true).run Tryd.prog w = .ok (.tuple #[.int .i64 0, .bool false]) w := by kernel_rfl
theorem ta_uint64_int32 (x : Value) (w : World) : (Instr.typeAssert (.iface 27 x) 20 21 true).run Tryd.prog w = .ok (.tuple #[.int .i32 0, .bool false]) w := by kernel_rfl
theorem ta_uint64_int16 (x : Value) (w : World) : (Instr.typeAssert (.iface 27 x) 20 103 true).run Tryd.prog w = .ok (.tuple #[.int .i16 0, .bool false]) w := by kernel_rfl
theorem ta_uint64_int8 (x : Value) (w : World) : (Instr.typeAssert (.iface 27 x) 20 77 true).run Tryd.prog w = .ok (.tuple #[.int .i8 0, .bool false]) w := by kernel_rfl
theorem ta_uint64_uint64 (x : Value) (w : World) : (Instr.typeAssert (.iface 27 x) 20 27 true).run Tryd.prog w = .ok (.tuple #[x, .bool true]) w := by kernel_rfl
theorem ta_int64_int64 (x : Value) (w : World) : (Instr.typeAssert (.iface 2 x) 20 2 true).run Tryd.prog w = .ok (.tuple #[x, .bool true]) w := by kernel_rfl
theorem ta_int_int64 (x : Value) (w : World) : (Instr.typeAssert (.iface 3 x) 20 2 true).run Tryd.prog w = .ok (.tuple #[.int .i64 0, .bool false]) w := by kernel_rfl
theorem ta_int_int32 (x : Value) (w : World) : (Instr.typeAssert (.iface 3 x) 20 21 true).run Tryd.prog w = .ok (.tuple #[.int .i32 0, .bool false]) w := by kernel_rfl
theorem ta_int_int16 (x : Value) (w : World) : (Instr.typeAssert (.iface 3 x) 20 103 true).run Tryd.prog w = .ok (.tuple #[.int .i16 0, .bool false]) w := by kernel_rfl
theorem ta_int_int8 (x : Value) (w : World) : (Instr.typeAssert (.iface 3 x) 20 77 true).run Tryd.prog w = .ok (.tuple #[.int .i8 0, .bool false]) w := by kernel_rfl
theorem ta_int_uint64 (x : Value) (w : World) : (Instr.typeAssert (.iface 3 x) 20 27 true).run Tryd.prog w = .ok (.tuple #[.int .u64 0, .bool false]) w := by kernel_rfl
theorem ta_int_uint32 (x : Value) (w : World) : (Instr.typeAssert (.iface 3 x) 20 104 true).run Tryd.prog w = .ok (.tuple #[.int .u32 0, .bool false]) w := by kernel_rfl
theorem ta_int_uint16 (x : Value) (w : World) : (Instr.typeAssert (.iface 3 x) 20 52 true).run Tryd.prog w = .ok (.tuple #[.int .u16 0, .bool false]) w := by kernel_rfl
theorem ta_int_uint8 (x : Value) (w : World) : (Instr.typeAssert (.iface 3 x) 20 5 true).run Tryd.prog w = .ok (.tuple #[.int .u8 0, .bool false]) w := by kernel_rfl
theorem ta_int_uint (x : Value) (w : World) : (Instr.typeAssert (.iface 3 x) 20 42 true).run Tryd.prog w = .ok (.tuple #[.int .u64 0, .bool false]) w := by kernel_rfl
theorem ta_int_int (x : Value) (w : World) : (Instr.typeAssert (.iface 3 x) 20 3 true).run Tryd.prog w = .ok (.tuple #[x, .bool true]) w := by kernel_rfl
theorem ta_uint8_int64 (x : Value) (w : World) : (Instr.typeAssert (.iface 5 x) 20 2 true).run Tryd.prog w = .ok (.tuple #[.int .i64 0, .bool false]) w := by kernel_rfl
theorem ta_uint8_int32 (x : Value) (w : World) : (Instr.typeAssert (.iface 5 x) 20 21 true).run Tryd.prog w = .ok (.tuple #[.int .i32 0, .bool false]) w := by kernel_rfl
theorem ta_uint8_int16 (x : Value) (w : World) : (Instr.typeAssert (.iface 5 x) 20 103 true).run Tryd.prog w = .ok (.tuple #[.int .i16 0, .bool false]) w := by kernel_rfl
theorem ta_uint8_int8 (x : Value) (w : World) : (Instr.typeAssert (.iface 5 x) 20 77 true).run Tryd.prog w = .ok (.tuple #[.int .i8 0, .bool false]) w := by kernel_rfl
theorem ta_uint8_uint64 (x : Value) (w : World) : (Instr.typeAssert (.iface 5 x) 20 27 true).run Tryd.prog w = .ok (.tuple #[.int .u64 0, .bool false]) w := by kernel_rfl
theorem ta_uint8_uint32 (x : Value) (w : World) : (Instr.typeAssert (.iface 5 x) 20 104 true).run Tryd.prog w = .ok (.tuple #[.int .u32 0, .bool false]) w := by kernel_rfl
theorem ta_uint8_uint16 (x : Value) (w : World) : (Instr.typeAssert (.iface 5 x) 20 52 true).run Tryd.prog w = .ok (.tuple #[.int .u16 0, .bool false]) w := by kernel_rfl
theorem ta_uint8_uint8 (x : Value) (w : World) : (Instr.typeAssert (.iface 5 x) 20 5 true).run Tryd.prog w = .ok (.tuple #[x, .bool true]) w := by kernel_rfl
def zeros2b : Array Value := #[.int .u8 0, .int .u8 0]
theorem mk2 (W : World) : (Instr.makeSlice 22 (.int .u8 2) (.int .u8 2)).run Tryd.prog W = .ok (.slice (some ⟨W.heap.size, 0, none⟩) 2 2) (W.alloc (.cells zeros2b 5)) := by
  have hi5 : (Tryd.prog.info? 5).map (fun i => (i.zero, i.size, i.bytes)) = some (some (.int .u8 0), 1, 1) := by kernel_rfl
  obtain ⟨i0, hi, hz0, hz1, hz2⟩ := info_parts hi5
  have h := run_makeSlice (P := Tryd.prog) W 22 5 i0 (.int .u8 0) Tryd.underlying22 hi hz0 .u8 .u8 2 2 (by omega) (by omega) (by rw [hz1]; decide) (by rw [hz2]; decide) (by decide)
  rw [hz1] at h
  have e : madeCells (Value.int .u8 0).cells ((2 : Int).toNat * 1) = zeros2b := by
    apply Array.ext'
    unfold madeCells
    rw [Array.toList_map, Array.toList_range]
    rfl
  rw [e] at h
  exact h
def zeros4b : Array Value := #[.int .u8 0, .int .u8 0, .int .u8 0, .int .u8 0]
theorem mk4 (W : World) : (Instr.makeSlice 22 (.int .u8 4) (.int .u8 4)).run Tryd.prog W = .ok (.slice (some ⟨W.heap.size, 0, none⟩) 4 4) (W.alloc (.cells zeros4b 5)) := by
  have hi5 : (Tryd.prog.info? 5).map (fun i => (i.zero, i.size, i.bytes)) = some (some (.int .u8 0), 1, 1) := by kernel_rfl
  obtain ⟨i0, hi, hz0, hz1, hz2⟩ := info_parts hi5
  have h := run_makeSlice (P := Tryd.prog) W 22 5 i0 (.int .u8 0) Tryd.underlying22 hi hz0 .u8 .u8 4 4 (by omega) (by omega) (by rw [hz1]; decide) (by rw [hz2]; decide) (by decide)
  rw [hz1] at h
  have e : madeCells (Value.int .u8 0).cells ((4 : Int).toNat * 1) = zeros4b := by
    apply Array.ext'
    unfold madeCells
    rw [Array.toList_map, Array.toList_range]
    rfl
  rw [e] at h
  exact h
def zeros8b : Array Value := #[.int .u8 0, .int .u8 0, .int .u8 0, .int .u8 0, .int .u8 0, .int .u8 0, .int .u8 0, .int .u8 0]
theorem mk8 (W : World) : (Instr.makeSlice 22 (.int .u8 8) (.int .u8 8)).run Tryd.prog W = .ok (.slice (some ⟨W.heap.size, 0, none⟩) 8 8) (W.alloc (.cells zeros8b 5)) := by
  have hi5 : (Tryd.prog.info? 5).map (fun i => (i.zero, i.size, i.bytes)) = some (some (.int .u8 0), 1, 1) := by kernel_rfl
  obtain ⟨i0, hi, hz0, hz1, hz2⟩ := info_parts hi5
  have h := run_makeSlice (P := Tryd.prog) W 22 5 i0 (.int .u8 0) Tryd.underlying22 hi hz0 .u8 .u8 8 8 (by omega) (by omega) (by rw [hz1]; decide) (by rw [hz2]; decide) (by decide)
  rw [hz1] at h
  have e : madeCells (Value.int .u8 0).cells ((8 : Int).toNat * 1) = zeros8b := by
    apply Array.ext'
    unfold madeCells
    rw [Array.toList_map, Array.toList_range]
    rfl
  rw [e] at h
  exact h
theorem mk8i (W : World) : (Instr.makeSlice 22 (.int .i64 8) (.int .i64 8)).run Tryd.prog W = .ok (.slice (some ⟨W.heap.size, 0, none⟩) 8 8) (W.alloc (.cells zeros8b 5)) := by
  have hi5 : (Tryd.prog.info? 5).map (fun i => (i.zero, i.size, i.bytes)) = some (some (.int .u8 0), 1, 1) := by kernel_rfl
  obtain ⟨i0, hi, hz0, hz1, hz2⟩ := info_parts hi5
  have h := run_makeSlice (P := Tryd.prog) W 22 5 i0 (.int .u8 0) Tryd.underlying22 hi hz0 .i64 .i64 8 8 (by omega) (by omega) (by rw [hz1]; decide) (by rw [hz2]; decide) (by decide)
  rw [hz1] at h
  have e : madeCells (Value.int .u8 0).cells ((8 : Int).toNat * 1) = zeros8b := by
    apply Array.ext'
    unfold madeCells
    rw [Array.toList_map, Array.toList_range]
    rfl
  rw [e] at h
  exact h
theorem below_put {w w2 : World} {o : Obj} (h : (w.alloc o).grownBy w2 (some w.heap.size)) : Below w.heap.size w w2 := grown_below (below_alloc (Below.refl _ _) o) h (by rw [World.size_alloc]; omega) (Nat.le_refl _)
end Ses
set_option maxHeartbeats 4000000 in
set_option maxRecDepth 100000 in
theorem putUint_packed (b g : Nat) (big : Bool) (chunk : Int) (out : List Int) (n sz : Nat) (be : Bool) (w : World) (h : Ses.WS w b g big chunk out) (hs1 : 2 ≤ sz) (hs2 : sz ≤ 8) (hn : (n : Int) < 256 ^ sz) (hn2 : (n : Int) < 18446744073709551616) (hlim : out.length + 9 ≤ 140737488355328) :
    Calls Tryd.prog 43 #[.pointer (some ⟨b, 0, none⟩), .iface 27 (.int .u64 n), .int .u8 sz, .bool be, .bool true] w (Ses.WP (.tuple #[]) b g big chunk (out ++ Dg.packed n) w) := by
  have hn8 : (n : Int) < 256 ^ 8 := by have e : (256 : Int) ^ 8 = 18446744073709551616 := by decide
                                       omega
  have hds := Dg.dgF_short 8 sz (n : Int) (by omega) hn
  have htr := Dg.trim_dg 8 (n : Int) (by omega) hn8
  have hpb : (Dg.dgF 8 (n : Int)).length ≤ 8 := Dg.dgF_len 8 n
  have htb := h.lt
  have htg := h.ltg
  have e1 : ((sz : Int) == 1) = false := beq_eq_false_iff_ne.2 (by omega)
  have HMk := Ses.mk8i
  have HPut := Lib.hid (fun W : World => Ses.bePut8 W.heap.size 8 n Ses.zeros8b (W.alloc (.cells Ses.zeros8b 5)) (by omega) (xb_new W _) rfl)
  have HTr := Lib.hid (fun (W : World) (h : Ses.RowAt W w.heap.size (Dg.plainL 8 (n : Int)).reverse) => trimZeros_ok w.heap.size 8 (Dg.plainL 8 (n : Int)).reverse W (by rw [List.length_reverse, Dg.plainL_len]) (by omega) (by omega) h)
  rw [htr] at HTr
  have hpk : out ++ Dg.packed (n : Int) = (out ++ [((Dg.dgF 8 (n : Int)).length : Int)]) ++ (Dg.dgF 8 (n : Int)).reverse := by rw [List.append_assoc]; rfl
  rw [hpk]
  obtain ⟨p, hp⟩ : ∃ p, p = (Dg.dgF 8 (n : Int)).reverse := ⟨_, rfl⟩
  have hpl : (Dg.dgF 8 (n : Int)).length = p.length := by rw [hp, List.length_reverse]
  rw [← hp] at HTr ⊢
  rw [hpl] at hds hpb ⊢
  have HP := Lib.hid hp
  have HB1 := Lib.hid (fun W b h hz => Ses.ws_byte b g big chunk out 0 W h hz)
  clear htr hpk hp hpl hn hn8
  have HWS := Lib.hid h
  have pu : IntKind.u64.wrap (n : Int) = (n : Int) := by simp [IntKind.wrap, IntKind.bits, IntKind.signed]; omega
  have HLim := Lib.hid hlim
  clear hn2
  have t0 := Ses.ta_uint64_int64; have t1 := Ses.ta_uint64_int32; have t2 := Ses.ta_uint64_int16; have t3 := Ses.ta_uint64_int8; have t4 := Ses.ta_uint64_uint64
  obtain ⟨k, hk⟩ : ∃ k, k = p.length := ⟨_, rfl⟩
  have HK := Lib.hid hk
  have hk8 : k ≤ 8 := by omega
  have hks : k ≤ sz := by omega
  have hmod : (k : Int) % 256 = k := by omega
  clear h hk hds hpb hlim
  have HNb := Lib.hid (show ¬ w.heap.size = b by omega)
  have HNg := Lib.hid (show ¬ w.heap.size = g by omega)
  have HBy := Lib.hid (fun (W : World) (h : Ses.WS W b g big chunk out) => Ses.ws_byte b g big chunk out (k : Int) W h (by have := HLim.out; omega))
  have HWr := Lib.hid (fun (W : World) (g' o c : Nat) (h : Ses.WS W b g' big chunk (out ++ [(k : Int)])) (hC : Kd.C (Kd.int .u8) W (some ⟨w.heap.size, o, none⟩) p.length p) => Ses.ws_write b g' big chunk (out ++ [(k : Int)]) p (some ⟨w.heap.size, o, none⟩) c W h hC (fun a e => by injection e with e; subst e; exact HNb.out) (by have := HK.out; have := HLim.out; rw [List.length_append, List.length_singleton]; omega))
  rw [← HK.out] at HWr
  have HW3 : Hid (∀ W : World, (w.alloc (.cells Ses.zeros8b 5)).grownBy W (some w.heap.size) → Ses.WS W b g big chunk out) := Lib.hid (fun W hW => (HWS.out.bl (below_alloc (Below.refl _ _) _)).grown hW (fun e => HNb.out (Option.some.inj e).symm) (fun e => HNg.out (Option.some.inj e).symm))
  have HCk : Hid (∀ (W W' : World) (g' o : Nat), Kd.C (Kd.int .u8) W (some ⟨w.heap.size, o, none⟩) p.length p → Ses.WStep W W' b g g' big chunk (out ++ [(k : Int)]) → Kd.C (Kd.int .u8) W' (some ⟨w.heap.size, o, none⟩) k p) := Lib.hid (fun W W' g' o hC hS => by
    have h := Ses.C_kp2 hC hS.kept (fun a e => by injection e with e; subst e; exact HNb.out) (fun a e => by injection e with e; subst e; exact HNg.out)
    rw [HK.out]
    exact h)
  rw [← HK.out]
  by_cases hz0 : k = 0
  · have hp0 : p = [] := List.eq_nil_of_length_eq_zero (HK.out.symm.trans hz0)
    subst hz0
    rw [Int.ofNat_zero] at HBy
    rw [hp0, List.append_nil]
    clear hp0
    have hsz : 0 < sz := by omega
    go_enter Tryd.func43, Tryd.ntmps43
    go_wp2_with (first | (go_at_call 60; (with_reducible refine (HPut.out _).mono ?_); rintro e w2 ⟨rfl, hrow, hgr⟩; have HRow := Lib.hid hrow; have HGr := Lib.hid hgr; clear hrow hgr) | (go_at_call 61; (with_reducible refine (HTr.out _ HRow.out).mono ?_); rintro e w3 ⟨o, c, rfl, hC, rfl⟩; have HCp := Lib.hid hC; clear hC; rw [HK.out.symm]) | (go_at_call 59; (with_reducible refine (HBy.out _ ?hws).mono ?_); (case hws => exact HW3.out _ HGr.out); rintro e w4 ⟨rfl, g4, hst⟩; have HSt := Lib.hid hst; clear hst))
    go_end0
    exact ⟨rfl, g4, HSt.out.prior (Ses.below_put HGr.out) htg⟩
  · have tz : ((k : Int) == 0) = false := beq_eq_false_iff_ne.2 (by omega)
    by_cases hgt : k < sz
    · go_enter Tryd.func43, Tryd.ntmps43
      go_wp2_with (first | (go_at_call 60; (with_reducible refine (HPut.out _).mono ?_); rintro e w2 ⟨rfl, hrow, hgr⟩; have HRow := Lib.hid hrow; have HGr := Lib.hid hgr; clear hrow hgr) | (go_at_call 61; (with_reducible refine (HTr.out _ HRow.out).mono ?_); rintro e w3 ⟨o, c, rfl, hC, rfl⟩; have HCp := Lib.hid hC; clear hC; rw [HK.out.symm]) | (go_at_call 59; (with_reducible refine (HBy.out _ ?hws).mono ?_); (case hws => exact HW3.out _ HGr.out); rintro e w4 ⟨rfl, g4, hst⟩; have HSt := Lib.hid hst; clear hst) | (go_at_call 58; (with_reducible refine (HWr.out _ g4 o c ?hws ?hC).mono ?_); (case hws => exact HSt.out.now); (case hC => exact HCk.out _ _ _ _ HCp.out HSt.out); rintro e w5 ⟨rfl, g5, hst⟩; have HSu := Lib.hid hst; clear hst))
      go_end0
      exact ⟨rfl, g5, (HSt.out.trans HSu.out).prior (Ses.below_put HGr.out) htg⟩
    · obtain rfl : sz = k := by omega
      go_enter Tryd.func43, Tryd.ntmps43
      go_wp2_with (first | (go_at_call 60; (with_reducible refine (HPut.out _).mono ?_); rintro e w2 ⟨rfl, hrow, hgr⟩; have HRow := Lib.hid hrow; have HGr := Lib.hid hgr; clear hrow hgr) | (go_at_call 61; (with_reducible refine (HTr.out _ HRow.out).mono ?_); rintro e w3 ⟨o, c, rfl, hC, rfl⟩; have HCp := Lib.hid hC; clear hC; rw [HK.out.symm]) | (go_at_call 59; (with_reducible refine (HBy.out _ ?hws).mono ?_); (case hws => exact HW3.out _ HGr.out); rintro e w4 ⟨rfl, g4, hst⟩; have HSt := Lib.hid hst; clear hst) | (go_at_call 58; (with_reducible refine (HWr.out _ g4 o c ?hws ?hC).mono ?_); (case hws => exact HSt.out.now); (case hC => exact HCk.out _ _ _ _ HCp.out HSt.out); rintro e w5 ⟨rfl, g5, hst⟩; have HSu := Lib.hid hst; clear hst))
      go_end0
      exact ⟨rfl, g5, (HSt.out.trans HSu.out).prior (Ses.below_put HGr.out) htg⟩
set_option maxHeartbeats 4000000 in
set_option maxRecDepth 100000 in
theorem putUint_packed_int (b g : Nat) (big : Bool) (chunk : Int) (out : List Int) (n sz : Nat) (be : Bool) (w : World) (h : Ses.WS w b g big chunk out) (hs1 : 2 ≤ sz) (hs2 : sz ≤ 8) (hn : (n : Int) < 256 ^ sz) (hn2 : (n : Int) < 9223372036854775808) (hlim : out.length + 9 ≤ 140737488355328) :
    Calls Tryd.prog 43 #[.pointer (some ⟨b, 0, none⟩), .iface 3 (.int .i64 n), .int .u8 sz, .bool be, .bool true] w (Ses.WP (.tuple #[]) b g big chunk (out ++ Dg.packed n) w) := by
  have hn8 : (n : Int) < 256 ^ 8 := by have e : (256 : Int) ^ 8 = 18446744073709551616 := by decide
                                       omega
  have hds := Dg.dgF_short 8 sz (n : Int) (by omega) hn
  have htr := Dg.trim_dg 8 (n : Int) (by omega) hn8
  have hpb : (Dg.dgF 8 (n : Int)).length ≤ 8 := Dg.dgF_len 8 n
  have htb := h.lt
  have htg := h.ltg
  have e1 : ((sz : Int) == 1) = false := beq_eq_false_iff_ne.2 (by omega)
  have HMk := Ses.mk8i
  have HPut := Lib.hid (fun W : World => Ses.bePut8 W.heap.size 8 n Ses.zeros8b (W.alloc (.cells Ses.zeros8b 5)) (by omega) (xb_new W _) rfl)
  have HTr := Lib.hid (fun (W : World) (h : Ses.RowAt W w.heap.size (Dg.plainL 8 (n : Int)).reverse) => trimZeros_ok w.heap.size 8 (Dg.plainL 8 (n : Int)).reverse W (by rw [List.length_reverse, Dg.plainL_len]) (by omega) (by omega) h)
  rw [htr] at HTr
  have hpk : out ++ Dg.packed (n : Int) = (out ++ [((Dg.dgF 8 (n : Int)).length : Int)]) ++ (Dg.dgF 8 (n : Int)).reverse := by rw [List.append_assoc]; rfl
  rw [hpk]
  obtain ⟨p, hp⟩ : ∃ p, p = (Dg.dgF 8 (n : Int)).reverse := ⟨_, rfl⟩
  have hpl : (Dg.dgF 8 (n : Int)).length = p.length := by rw [hp, List.length_reverse]
  rw [← hp] at HTr ⊢
  rw [hpl] at hds hpb ⊢
  have HP := Lib.hid hp
  have HB1 := Lib.hid (fun W b h hz => Ses.ws_byte b g big chunk out 0 W h hz)
  clear htr hpk hp hpl hn hn8
  have HWS := Lib.hid h
  have pu : IntKind.u64.wrap (n : Int) = (n : Int) := by simp [IntKind.wrap, IntKind.bits, IntKind.signed]; omega
  have HLim := Lib.hid hlim
  clear hn2
  have t0 := Ses.ta_int_int64; have t1 := Ses.ta_int_int32; have t2 := Ses.ta_int_int16; have t3 := Ses.ta_int_int8; have t4 := Ses.ta_int_uint64; have t5 := Ses.ta_int_uint32; have t6 := Ses.ta_int_uint16; have t7 := Ses.ta_int_uint8; have t8 := Ses.ta_int_uint; have t9 := Ses.ta_int_int
  obtain ⟨k, hk⟩ : ∃ k, k = p.length := ⟨_, rfl⟩
  have HK := Lib.hid hk
  have hk8 : k ≤ 8 := by omega
  have hks : k ≤ sz := by omega
  have hmod : (k : Int) % 256 = k := by omega
  clear h hk hds hpb hlim
  have HNb := Lib.hid (show ¬ w.heap.size = b by omega)
  have HNg := Lib.hid (show ¬ w.heap.size = g by omega)
  have HBy := Lib.hid (fun (W : World) (h : Ses.WS W b g big chunk out) => Ses.ws_byte b g big chunk out (k : Int) W h (by have := HLim.out; omega))
  have HWr := Lib.hid (fun (W : World) (g' o c : Nat) (h : Ses.WS W b g' big chunk (out ++ [(k : Int)])) (hC : Kd.C (Kd.int .u8) W (some ⟨w.heap.size, o, none⟩) p.length p) => Ses.ws_write b g' big chunk (out ++ [(k : Int)]) p (some ⟨w.heap.size, o, none⟩) c W h hC (fun a e => by injection e with e; subst e; exact HNb.out) (by have := HK.out; have := HLim.out; rw [List.length_append, List.length_singleton]; omega))
  rw [← HK.out] at HWr
  have HW3 : Hid (∀ W : World, (w.alloc (.cells Ses.zeros8b 5)).grownBy W (some w.heap.size) → Ses.WS W b g big chunk out) := Lib.hid (fun W hW => (HWS.out.bl (below_alloc (Below.refl _ _) _)).grown hW (fun e => HNb.out (Option.some.inj e).symm) (fun e => HNg.out (Option.some.inj e).symm))
  have HCk : Hid (∀ (W W' : World) (g' o : Nat), Kd.C (Kd.int .u8) W (some ⟨w.heap.size, o, none⟩) p.length p → Ses.WStep W W' b g g' big chunk (out ++ [(k : Int)]) → Kd.C (Kd.int .u8) W' (some ⟨w.heap.size, o, none⟩) k p) := Lib.hid (fun W W' g' o hC hS => by
    have h := Ses.C_kp2 hC hS.kept (fun a e => by injection e with e; subst e; exact HNb.out) (fun a e => by injection e with e; subst e; exact HNg.out)
    rw [HK.out]
    exact h)
  rw [← HK.out]
  by_cases hz0 : k = 0
  · have hp0 : p = [] := List.eq_nil_of_length_eq_zero (HK.out.symm.trans hz0)
    subst hz0
    rw [Int.ofNat_zero] at HBy
    rw [hp0, List.append_nil]
    clear hp0
    have hsz : 0 < sz := by omega
    go_enter Tryd.func43, Tryd.ntmps43
    go_wp2_with (first | (go_at_call 60; (with_reducible refine (HPut.out _).mono ?_); rintro e w2 ⟨rfl, hrow, hgr⟩; have HRow := Lib.hid hrow; have HGr := Lib.hid hgr; clear hrow hgr) | (go_at_call 61; (with_reducible refine (HTr.out _ HRow.out).mono ?_); rintro e w3 ⟨o, c, rfl, hC, rfl⟩; have HCp := Lib.hid hC; clear hC; rw [HK.out.symm]) | (go_at_call 59; (with_reducible refine (HBy.out _ ?hws).mono ?_); (case hws => exact HW3.out _ HGr.out); rintro e w4 ⟨rfl, g4, hst⟩; have HSt := Lib.hid hst; clear hst))
    go_end0
    exact ⟨rfl, g4, HSt.out.prior (Ses.below_put HGr.out) htg⟩
  · have tz : ((k : Int) == 0) = false := beq_eq_false_iff_ne.2 (by omega)
    by_cases hgt : k < sz
    · go_enter Tryd.func43, Tryd.ntmps43
      go_wp2_with (first | (go_at_call 60; (with_reducible refine (HPut.out _).mono ?_); rintro e w2 ⟨rfl, hrow, hgr⟩; have HRow := Lib.hid hrow; have HGr := Lib.hid hgr; clear hrow hgr) | (go_at_call 61; (with_reducible refine (HTr.out _ HRow.out).mono ?_); rintro e w3 ⟨o, c, rfl, hC, rfl⟩; have HCp := Lib.hid hC; clear hC; rw [HK.out.symm]) | (go_at_call 59; (with_reducible refine (HBy.out _ ?hws).mono ?_); (case hws => exact HW3.out _ HGr.out); rintro e w4 ⟨rfl, g4, hst⟩; have HSt := Lib.hid hst; clear hst) | (go_at_call 58; (with_reducible refine (HWr.out _ g4 o c ?hws ?hC).mono ?_); (case hws => exact HSt.out.now); (case hC => exact HCk.out _ _ _ _ HCp.out HSt.out); rintro e w5 ⟨rfl, g5, hst⟩; have HSu := Lib.hid hst; clear hst))
      go_end0
      exact ⟨rfl, g5, (HSt.out.trans HSu.out).prior (Ses.below_put HGr.out) htg⟩
    · obtain rfl : sz = k := by omega
      go_enter Tryd.func43, Tryd.ntmps43
      go_wp2_with (first | (go_at_call 60; (with_reducible refine (HPut.out _).mono ?_); rintro e w2 ⟨rfl, hrow, hgr⟩; have HRow := Lib.hid hrow; have HGr := Lib.hid hgr; clear hrow hgr) | (go_at_call 61; (with_reducible refine (HTr.out _ HRow.out).mono ?_); rintro e w3 ⟨o, c, rfl, hC, rfl⟩; have HCp := Lib.hid hC; clear hC; rw [HK.out.symm]) | (go_at_call 59; (with_reducible refine (HBy.out _ ?hws).mono ?_); (case hws => exact HW3.out _ HGr.out); rintro e w4 ⟨rfl, g4, hst⟩; have HSt := Lib.hid hst; clear hst) | (go_at_call 58; (with_reducible refine (HWr.out _ g4 o c ?hws ?hC).mono ?_); (case hws => exact HSt.out.now); (case hC => exact HCk.out _ _ _ _ HCp.out HSt.out); rintro e w5 ⟨rfl, g5, hst⟩; have HSu := Lib.hid hst; clear hst))
      go_end0
      exact ⟨rfl, g5, (HSt.out.trans HSu.out).prior (Ses.below_put HGr.out) htg⟩
set_option maxHeartbeats 4000000 in
set_option maxRecDepth 100000 in
theorem putInt_packed (b g : Nat) (big : Bool) (chunk : Int) (out : List Int) (n sz : Nat) (be : Bool) (w : World) (h : Ses.WS w b g big chunk out) (hs1 : 1 ≤ sz) (hs2 : sz ≤ 8) (hn : (n : Int) < 256 ^ sz) (hn2 : (n : Int) < 9223372036854775808) (hlim : out.length + 9 ≤ 140737488355328) :
    Calls Tryd.prog 42 #[.pointer (some ⟨b, 0, none⟩), .iface 2 (.int .i64 n), .int .u8 sz, .bool be, .bool true] w (Ses.WP (.tuple #[]) b g big chunk (out ++ Dg.packed n) w) := by
  have hn8 : (n : Int) < 256 ^ 8 := by have e : (256 : Int) ^ 8 = 18446744073709551616 := by decide
                                       omega
  have hds := Dg.dgF_short 8 sz (n : Int) (by omega) hn
  have htr := Dg.trim_dg 8 (n : Int) (by omega) hn8
  have hpb : (Dg.dgF 8 (n : Int)).length ≤ 8 := Dg.dgF_len 8 n
  have htb := h.lt
  have htg := h.ltg
  have HMk := Ses.mk8i
  have HPut := Lib.hid (fun W : World => Ses.bePut8 W.heap.size 8 n Ses.zeros8b (W.alloc (.cells Ses.zeros8b 5)) (by omega) (xb_new W _) rfl)
  have HTr := Lib.hid (fun (W : World) (h : Ses.RowAt W w.heap.size (Dg.plainL 8 (n : Int)).reverse) => trimZeros_ok w.heap.size 8 (Dg.plainL 8 (n : Int)).reverse W (by rw [List.length_reverse, Dg.plainL_len]) (by omega) (by omega) h)
  rw [htr] at HTr
  have hpk : out ++ Dg.packed (n : Int) = (out ++ [((Dg.dgF 8 (n : Int)).length : Int)]) ++ (Dg.dgF 8 (n : Int)).reverse := by rw [List.append_assoc]; rfl
  rw [hpk]
  obtain ⟨p, hp⟩ : ∃ p, p = (Dg.dgF 8 (n : Int)).reverse := ⟨_, rfl⟩
  have hpl : (Dg.dgF 8 (n : Int)).length = p.length := by rw [hp, List.length_reverse]
  rw [← hp] at HTr ⊢
  rw [hpl] at hds hpb ⊢
  have HP := Lib.hid hp
  have HB1 := Lib.hid (fun W b h hz => Ses.ws_byte b g big chunk out 0 W h hz)
  clear htr hpk hp hpl hn hn8
  have HWS := Lib.hid h
  have pu : IntKind.u64.wrap (n : Int) = (n : Int) := by simp [IntKind.wrap, IntKind.bits, IntKind.signed]; omega
  have pi : IntKind.i64.wrap (n : Int) = (n : Int) := (IntKind.wrap_i64 _).trans (by omega)
  have tn : decide ((n : Int) < 0) = false := decide_eq_false (by omega)
  have HLim := Lib.hid hlim
  clear hn2
  have t0 := Ses.ta_int64_int64
  obtain ⟨k, hk⟩ : ∃ k, k = p.length := ⟨_, rfl⟩
  have HK := Lib.hid hk
  have hk8 : k ≤ 8 := by omega
  have hks : k ≤ sz := by omega
  have hmod : (k : Int) % 256 = k := by omega
  clear h hk hds hpb hlim
  have HNb := Lib.hid (show ¬ w.heap.size = b by omega)
  have HNg := Lib.hid (show ¬ w.heap.size = g by omega)
  have HBy := Lib.hid (fun (W : World) (h : Ses.WS W b g big chunk out) => Ses.ws_byte b g big chunk out (k : Int) W h (by have := HLim.out; omega))
  have HWr := Lib.hid (fun (W : World) (g' o c : Nat) (h : Ses.WS W b g' big chunk (out ++ [(k : Int)])) (hC : Kd.C (Kd.int .u8) W (some ⟨w.heap.size, o, none⟩) p.length p) => Ses.ws_write b g' big chunk (out ++ [(k : Int)]) p (some ⟨w.heap.size, o, none⟩) c W h hC (fun a e => by injection e with e; subst e; exact HNb.out) (by have := HK.out; have := HLim.out; rw [List.length_append, List.length_singleton]; omega))
  rw [← HK.out] at HWr
  have HW3 : Hid (∀ W : World, (w.alloc (.cells Ses.zeros8b 5)).grownBy W (some w.heap.size) → Ses.WS W b g big chunk out) := Lib.hid (fun W hW => (HWS.out.bl (below_alloc (Below.refl _ _) _)).grown hW (fun e => HNb.out (Option.some.inj e).symm) (fun e => HNg.out (Option.some.inj e).symm))
  have HCk : Hid (∀ (W W' : World) (g' o : Nat), Kd.C (Kd.int .u8) W (some ⟨w.heap.size, o, none⟩) p.length p → Ses.WStep W W' b g g' big chunk (out ++ [(k : Int)]) → Kd.C (Kd.int .u8) W' (some ⟨w.heap.size, o, none⟩) k p) := Lib.hid (fun W W' g' o hC hS => by
    have h := Ses.C_kp2 hC hS.kept (fun a e => by injection e with e; subst e; exact HNb.out) (fun a e => by injection e with e; subst e; exact HNg.out)
    rw [HK.out]
    exact h)
  rw [← HK.out]
  by_cases hz0 : k = 0
  · have hp0 : p = [] := List.eq_nil_of_length_eq_zero (HK.out.symm.trans hz0)
    subst hz0
    rw [Int.ofNat_zero] at HBy
    rw [hp0, List.append_nil]
    clear hp0
    have hsz : 0 < sz := by omega
    go_enter Tryd.func42, Tryd.ntmps42
    go_wp2_with (first | (go_at_call 60; (with_reducible refine (HPut.out _).mono ?_); rintro e w2 ⟨rfl, hrow, hgr⟩; have HRow := Lib.hid hrow; have HGr := Lib.hid hgr; clear hrow hgr) | (go_at_call 61; (with_reducible refine (HTr.out _ HRow.out).mono ?_); rintro e w3 ⟨o, c, rfl, hC, rfl⟩; have HCp := Lib.hid hC; clear hC; rw [HK.out.symm]) | (go_at_call 59; (with_reducible refine (HBy.out _ ?hws).mono ?_); (case hws => exact HW3.out _ HGr.out); rintro e w4 ⟨rfl, g4, hst⟩; have HSt := Lib.hid hst; clear hst))
    go_end0
    exact ⟨rfl, g4, HSt.out.prior (Ses.below_put HGr.out) htg⟩
  · have tz : ((k : Int) == 0) = false := beq_eq_false_iff_ne.2 (by omega)
    by_cases hgt : k < sz
    · go_enter Tryd.func42, Tryd.ntmps42
      go_wp2_with (first | (go_at_call 60; (with_reducible refine (HPut.out _).mono ?_); rintro e w2 ⟨rfl, hrow, hgr⟩; have HRow := Lib.hid hrow; have HGr := Lib.hid hgr; clear hrow hgr) | (go_at_call 61; (with_reducible refine (HTr.out _ HRow.out).mono ?_); rintro e w3 ⟨o, c, rfl, hC, rfl⟩; have HCp := Lib.hid hC; clear hC; rw [HK.out.symm]) | (go_at_call 59; (with_reducible refine (HBy.out _ ?hws).mono ?_); (case hws => exact HW3.out _ HGr.out); rintro e w4 ⟨rfl, g4, hst⟩; have HSt := Lib.hid hst; clear hst) | (go_at_call 58; (with_reducible refine (HWr.out _ g4 o c ?hws ?hC).mono ?_); (case hws => exact HSt.out.now); (case hC => exact HCk.out _ _ _ _ HCp.out HSt.out); rintro e w5 ⟨rfl, g5, hst⟩; have HSu := Lib.hid hst; clear hst))
      go_end0
      exact ⟨rfl, g5, (HSt.out.trans HSu.out).prior (Ses.below_put HGr.out) htg⟩
    · obtain rfl : sz = k := by omega
      go_enter Tryd.func42, Tryd.ntmps42
      go_wp2_with (first | (go_at_call 60; (with_reducible refine (HPut.out _).mono ?_); rintro e w2 ⟨rfl, hrow, hgr⟩; have HRow := Lib.hid hrow; have HGr := Lib.hid hgr; clear hrow hgr) | (go_at_call 61; (with_reducible refine (HTr.out _ HRow.out).mono ?_); rintro e w3 ⟨o, c, rfl, hC, rfl⟩; have HCp := Lib.hid hC; clear hC; rw [HK.out.symm]) | (go_at_call 59; (with_reducible refine (HBy.out _ ?hws).mono ?_); (case hws => exact HW3.out _ HGr.out); rintro e w4 ⟨rfl, g4, hst⟩; have HSt := Lib.hid hst; clear hst) | (go_at_call 58; (with_reducible refine (HWr.out _ g4 o c ?hws ?hC).mono ?_); (case hws => exact HSt.out.now); (case hC => exact HCk.out _ _ _ _ HCp.out HSt.out); rintro e w5 ⟨rfl, g5, hst⟩; have HSu := Lib.hid hst; clear hst))
      go_end0
      exact ⟨rfl, g5, (HSt.out.trans HSu.out).prior (Ses.below_put HGr.out) htg⟩
set_option maxHeartbeats 4000000 in
set_option maxRecDepth 100000 in
theorem putInt_packed_int (b g : Nat) (big : Bool) (chunk : Int) (out : List Int) (n sz : Nat) (be : Bool) (w : World) (h : Ses.WS w b g big chunk out) (hs1 : 1 ≤ sz) (hs2 : sz ≤ 8) (hn : (n : Int) < 256 ^ sz) (hn2 : (n : Int) < 9223372036854775808) (hlim : out.length + 9 ≤ 140737488355328) :
    Calls Tryd.prog 42 #[.pointer (some ⟨b, 0, none⟩), .iface 3 (.int .i64 n), .int .u8 sz, .bool be, .bool true] w (Ses.WP (.tuple #[]) b g big chunk (out ++ Dg.packed n) w) := by
  have hn8 : (n : Int) < 256 ^ 8 := by have e : (256 : Int) ^ 8 = 18446744073709551616 := by decide
                                       omega
  have hds := Dg.dgF_short 8 sz (n : Int) (by omega) hn
  have htr := Dg.trim_dg 8 (n : Int) (by omega) hn8
  have hpb : (Dg.dgF 8 (n : Int)).length ≤ 8 := Dg.dgF_len 8 n
  have htb := h.lt
  have htg := h.ltg
  have HMk := Ses.mk8i
  have HPut := Lib.hid (fun W : World => Ses.bePut8 W.heap.size 8 n Ses.zeros8b (W.alloc (.cells Ses.zeros8b 5)) (by omega) (xb_new W _) rfl)
  have HTr := Lib.hid (fun (W : World) (h : Ses.RowAt W w.heap.size (Dg.plainL 8 (n : Int)).reverse) => trimZeros_ok w.heap.size 8 (Dg.plainL 8 (n : Int)).reverse W (by rw [List.length_reverse, Dg.plainL_len]) (by omega) (by omega) h)
  rw [htr] at HTr
  have hpk : out ++ Dg.packed (n : Int) = (out ++ [((Dg.dgF 8 (n : Int)).length : Int)]) ++ (Dg.dgF 8 (n : Int)).reverse := by rw [List.append_assoc]; rfl
  rw [hpk]
  obtain ⟨p, hp⟩ : ∃ p, p = (Dg.dgF 8 (n : Int)).reverse := ⟨_, rfl⟩
  have hpl : (Dg.dgF 8 (n : Int)).length = p.length := by rw [hp, List.length_reverse]
  rw [← hp] at HTr ⊢
  rw [hpl] at hds hpb ⊢
  have HP := Lib.hid hp
  have HB1 := Lib.hid (fun W b h hz => Ses.ws_byte b g big chunk out 0 W h hz)
  clear htr hpk hp hpl hn hn8
  have HWS := Lib.hid h
  have pu : IntKind.u64.wrap (n : Int) = (n : Int) := by simp [IntKind.wrap, IntKind.bits, IntKind.signed]; omega
  have pi : IntKind.i64.wrap (n : Int) = (n : Int) := (IntKind.wrap_i64 _).trans (by omega)
  have tn : decide ((n : Int) < 0) = false := decide_eq_false (by omega)
  have HLim := Lib.hid hlim
  clear hn2
  have t0 := Ses.ta_int_int64; have t1 := Ses.ta_int_int32; have t2 := Ses.ta_int_int16; have t3 := Ses.ta_int_int8; have t4 := Ses.ta_int_uint64; have t5 := Ses.ta_int_uint32; have t6 := Ses.ta_int_uint16; have t7 := Ses.ta_int_uint8; have t8 := Ses.ta_int_uint; have t9 := Ses.ta_int_int
  obtain ⟨k, hk⟩ : ∃ k, k = p.length := ⟨_, rfl⟩
  have HK := Lib.hid hk
  have hk8 : k ≤ 8 := by omega
  have hks : k ≤ sz := by omega
  have hmod : (k : Int) % 256 = k := by omega
  clear h hk hds hpb hlim
  have HNb := Lib.hid (show ¬ w.heap.size = b by omega)
  have HNg := Lib.hid (show ¬ w.heap.size = g by omega)
  have HBy := Lib.hid (fun (W : World) (h : Ses.WS W b g big chunk out) => Ses.ws_byte b g big chunk out (k : Int) W h (by have := HLim.out; omega))
  have HWr := Lib.hid (fun (W : World) (g' o c : Nat) (h : Ses.WS W b g' big chunk (out ++ [(k : Int)])) (hC : Kd.C (Kd.int .u8) W (some ⟨w.heap.size, o, none⟩) p.length p) => Ses.ws_write b g' big chunk (out ++ [(k : Int)]) p (some ⟨w.heap.size, o, none⟩) c W h hC (fun a e => by injection e with e; subst e; exact HNb.out) (by have := HK.out; have := HLim.out; rw [List.length_append, List.length_singleton]; omega))
  rw [← HK.out] at HWr
  have HW3 : Hid (∀ W : World, (w.alloc (.cells Ses.zeros8b 5)).grownBy W (some w.heap.size) → Ses.WS W b g big chunk out) := Lib.hid (fun W hW => (HWS.out.bl (below_alloc (Below.refl _ _) _)).grown hW (fun e => HNb.out (Option.some.inj e).symm) (fun e => HNg.out (Option.some.inj e).symm))
  have HCk : Hid (∀ (W W' : World) (g' o : Nat), Kd.C (Kd.int .u8) W (some ⟨w.heap.size, o, none⟩) p.length p → Ses.WStep W W' b g g' big chunk (out ++ [(k : Int)]) → Kd.C (Kd.int .u8) W' (some ⟨w.heap.size, o, none⟩) k p) := Lib.hid (fun W W' g' o hC hS => by
    have h := Ses.C_kp2 hC hS.kept (fun a e => by injection e with e; subst e; exact HNb.out) (fun a e => by injection e with e; subst e; exact HNg.out)
    rw [HK.out]
    exact h)
  rw [← HK.out]
  by_cases hz0 : k = 0
  · have hp0 : p = [] := List.eq_nil_of_length_eq_zero (HK.out.symm.trans hz0)
    subst hz0
    rw [Int.ofNat_zero] at HBy
    rw [hp0, List.append_nil]
    clear hp0
    have hsz : 0 < sz := by omega
    go_enter Tryd.func42, Tryd.ntmps42
    go_wp2_with (first | (go_at_call 60; (with_reducible refine (HPut.out _).mono ?_); rintro e w2 ⟨rfl, hrow, hgr⟩; have HRow := Lib.hid hrow; have HGr := Lib.hid hgr; clear hrow hgr) | (go_at_call 61; (with_reducible refine (HTr.out _ HRow.out).mono ?_); rintro e w3 ⟨o, c, rfl, hC, rfl⟩; have HCp := Lib.hid hC; clear hC; rw [HK.out.symm]) | (go_at_call 59; (with_reducible refine (HBy.out _ ?hws).mono ?_); (case hws => exact HW3.out _ HGr.out); rintro e w4 ⟨rfl, g4, hst⟩; have HSt := Lib.hid hst; clear hst))
    go_end0
    exact ⟨rfl, g4, HSt.out.prior (Ses.below_put HGr.out) htg⟩
  · have tz : ((k : Int) == 0) = false := beq_eq_false_iff_ne.2 (by omega)
    by_cases hgt : k < sz
    · go_enter Tryd.func42, Tryd.ntmps42
      go_wp2_with (first | (go_at_call 60; (with_reducible refine (HPut.out _).mono ?_); rintro e w2 ⟨rfl, hrow, hgr⟩; have HRow := Lib.hid hrow; have HGr := Lib.hid hgr; clear hrow hgr) | (go_at_call 61; (with_reducible refine (HTr.out _ HRow.out).mono ?_); rintro e w3 ⟨o, c, rfl, hC, rfl⟩; have HCp := Lib.hid hC; clear hC; rw [HK.out.symm]) | (go_at_call 59; (with_reducible refine (HBy.out _ ?hws).mono ?_); (case hws => exact HW3.out _ HGr.out); rintro e w4 ⟨rfl, g4, hst⟩; have HSt := Lib.hid hst; clear hst) | (go_at_call 58; (with_reducible refine (HWr.out _ g4 o c ?hws ?hC).mono ?_); (case hws => exact HSt.out.now); (case hC => exact HCk.out _ _ _ _ HCp.out HSt.out); rintro e w5 ⟨rfl, g5, hst⟩; have HSu := Lib.hid hst; clear hst))
      go_end0
      exact ⟨rfl, g5, (HSt.out.trans HSu.out).prior (Ses.below_put HGr.out) htg⟩
    · obtain rfl : sz = k := by omega
      go_enter Tryd.func42, Tryd.ntmps42
      go_wp2_with (first | (go_at_call 60; (with_reducible refine (HPut.out _).mono ?_); rintro e w2 ⟨rfl, hrow, hgr⟩; have HRow := Lib.hid hrow; have HGr := Lib.hid hgr; clear hrow hgr) | (go_at_call 61; (with_reducible refine (HTr.out _ HRow.out).mono ?_); rintro e w3 ⟨o, c, rfl, hC, rfl⟩; have HCp := Lib.hid hC; clear hC; rw [HK.out.symm]) | (go_at_call 59; (with_reducible refine (HBy.out _ ?hws).mono ?_); (case hws => exact HW3.out _ HGr.out); rintro e w4 ⟨rfl, g4, hst⟩; have HSt := Lib.hid hst; clear hst) | (go_at_call 58; (with_reducible refine (HWr.out _ g4 o c ?hws ?hC).mono ?_); (case hws => exact HSt.out.now); (case hC => exact HCk.out _ _ _ _ HCp.out HSt.out); rintro e w5 ⟨rfl, g5, hst⟩; have HSu := Lib.hid hst; clear hst))
      go_end0
      exact ⟨rfl, g5, (HSt.out.trans HSu.out).prior (Ses.below_put HGr.out) htg⟩
set_option maxHeartbeats 4000000 in
set_option maxRecDepth 100000 in
theorem putInt_packed_u8 (b g : Nat) (big : Bool) (chunk : Int) (out : List Int) (n sz : Nat) (be : Bool) (w : World) (h : Ses.WS w b g big chunk out) (hs1 : 1 ≤ sz) (hs2 : sz ≤ 8) (hn : (n : Int) < 256 ^ sz) (hn2 : (n : Int) < 256) (hlim : out.length + 9 ≤ 140737488355328) :
    Calls Tryd.prog 42 #[.pointer (some ⟨b, 0, none⟩), .iface 5 (.int .u8 n), .int .u8 sz, .bool be, .bool true] w (Ses.WP (.tuple #[]) b g big chunk (out ++ Dg.packed n) w) := by
  have hn8 : (n : Int) < 256 ^ 8 := by have e : (256 : Int) ^ 8 = 18446744073709551616 := by decide
                                       omega
  have hds := Dg.dgF_short 8 sz (n : Int) (by omega) hn
  have htr := Dg.trim_dg 8 (n : Int) (by omega) hn8
  have hpb : (Dg.dgF 8 (n : Int)).length ≤ 8 := Dg.dgF_len 8 n
  have htb := h.lt
  have htg := h.ltg
  have HMk := Ses.mk8i
  have HPut := Lib.hid (fun W : World => Ses.bePut8 W.heap.size 8 n Ses.zeros8b (W.alloc (.cells Ses.zeros8b 5)) (by omega) (xb_new W _) rfl)
  have HTr := Lib.hid (fun (W : World) (h : Ses.RowAt W w.heap.size (Dg.plainL 8 (n : Int)).reverse) => trimZeros_ok w.heap.size 8 (Dg.plainL 8 (n : Int)).reverse W (by rw [List.length_reverse, Dg.plainL_len]) (by omega) (by omega) h)
  rw [htr] at HTr
  have hpk : out ++ Dg.packed (n : Int) = (out ++ [((Dg.dgF 8 (n : Int)).length : Int)]) ++ (Dg.dgF 8 (n : Int)).reverse := by rw [List.append_assoc]; rfl
  rw [hpk]
  obtain ⟨p, hp⟩ : ∃ p, p = (Dg.dgF 8 (n : Int)).reverse := ⟨_, rfl⟩
  have hpl : (Dg.dgF 8 (n : Int)).length = p.length := by rw [hp, List.length_reverse]
  rw [← hp] at HTr ⊢
  rw [hpl] at hds hpb ⊢
  have HP := Lib.hid hp
  have HB1 := Lib.hid (fun W b h hz => Ses.ws_byte b g big chunk out 0 W h hz)
  clear htr hpk hp hpl hn hn8
  have HWS := Lib.hid h
  have pu : IntKind.u64.wrap (n : Int) = (n : Int) := by simp [IntKind.wrap, IntKind.bits, IntKind.signed]; omega
  have pi : IntKind.i64.wrap (n : Int) = (n : Int) := (IntKind.wrap_i64 _).trans (by omega)
  have tn : decide ((n : Int) < 0) = false := decide_eq_false (by omega)
  have HLim := Lib.hid hlim
  clear hn2
  have t0 := Ses.ta_uint8_int64; have t1 := Ses.ta_uint8_int32; have t2 := Ses.ta_uint8_int16; have t3 := Ses.ta_uint8_int8; have t4 := Ses.ta_uint8_uint64; have t5 := Ses.ta_uint8_uint32; have t6 := Ses.ta_uint8_uint16; have t7 := Ses.ta_uint8_uint8
  obtain ⟨k, hk⟩ : ∃ k, k = p.length := ⟨_, rfl⟩
  have HK := Lib.hid hk
  have hk8 : k ≤ 8 := by omega
  have hks : k ≤ sz := by omega
  have hmod : (k : Int) % 256 = k := by omega
  clear h hk hds hpb hlim
  have HNb := Lib.hid (show ¬ w.heap.size = b by omega)
  have HNg := Lib.hid (show ¬ w.heap.size = g by omega)
  have HBy := Lib.hid (fun (W : World) (h : Ses.WS W b g big chunk out) => Ses.ws_byte b g big chunk out (k : Int) W h (by have := HLim.out; omega))
  have HWr := Lib.hid (fun (W : World) (g' o c : Nat) (h : Ses.WS W b g' big chunk (out ++ [(k : Int)])) (hC : Kd.C (Kd.int .u8) W (some ⟨w.heap.size, o, none⟩) p.length p) => Ses.ws_write b g' big chunk (out ++ [(k : Int)]) p (some ⟨w.heap.size, o, none⟩) c W h hC (fun a e => by injection e with e; subst e; exact HNb.out) (by have := HK.out; have := HLim.out; rw [List.length_append, List.length_singleton]; omega))
  rw [← HK.out] at HWr
  have HW3 : Hid (∀ W : World, (w.alloc (.cells Ses.zeros8b 5)).grownBy W (some w.heap.size) → Ses.WS W b g big chunk out) := Lib.hid (fun W hW => (HWS.out.bl (below_alloc (Below.refl _ _) _)).grown hW (fun e => HNb.out (Option.some.inj e).symm) (fun e => HNg.out (Option.some.inj e).symm))
  have HCk : Hid (∀ (W W' : World) (g' o : Nat), Kd.C (Kd.int .u8) W (some ⟨w.heap.size, o, none⟩) p.length p → Ses.WStep W W' b g g' big chunk (out ++ [(k : Int)]) → Kd.C (Kd.int .u8) W' (some ⟨w.heap.size, o, none⟩) k p) := Lib.hid (fun W W' g' o hC hS => by
    have h := Ses.C_kp2 hC hS.kept (fun a e => by injection e with e; subst e; exact HNb.out) (fun a e => by injection e with e; subst e; exact HNg.out)
    rw [HK.out]
    exact h)
  rw [← HK.out]
  by_cases hz0 : k = 0
  · have hp0 : p = [] := List.eq_nil_of_length_eq_zero (HK.out.symm.trans hz0)
    subst hz0
    rw [Int.ofNat_zero] at HBy
    rw [hp0, List.append_nil]
    clear hp0
    have hsz : 0 < sz := by omega
    go_enter Tryd.func42, Tryd.ntmps42
    go_wp2_with (first | (go_at_call 60; (with_reducible refine (HPut.out _).mono ?_); rintro e w2 ⟨rfl, hrow, hgr⟩; have HRow := Lib.hid hrow; have HGr := Lib.hid hgr; clear hrow hgr) | (go_at_call 61; (with_reducible refine (HTr.out _ HRow.out).mono ?_); rintro e w3 ⟨o, c, rfl, hC, rfl⟩; have HCp := Lib.hid hC; clear hC; rw [HK.out.symm]) | (go_at_call 59; (with_reducible refine (HBy.out _ ?hws).mono ?_); (case hws => exact HW3.out _ HGr.out); rintro e w4 ⟨rfl, g4, hst⟩; have HSt := Lib.hid hst; clear hst))
    go_end0
    exact ⟨rfl, g4, HSt.out.prior (Ses.below_put HGr.out) htg⟩
  · have tz : ((k : Int) == 0) = false := beq_eq_false_iff_ne.2 (by omega)
    by_cases hgt : k < sz
    · go_enter Tryd.func42, Tryd.ntmps42
      go_wp2_with (first | (go_at_call 60; (with_reducible refine (HPut.out _).mono ?_); rintro e w2 ⟨rfl, hrow, hgr⟩; have HRow := Lib.hid hrow; have HGr := Lib.hid hgr; clear hrow hgr) | (go_at_call 61; (with_reducible refine (HTr.out _ HRow.out).mono ?_); rintro e w3 ⟨o, c, rfl, hC, rfl⟩; have HCp := Lib.hid hC; clear hC; rw [HK.out.symm]) | (go_at_call 59; (with_reducible refine (HBy.out _ ?hws).mono ?_); (case hws => exact HW3.out _ HGr.out); rintro e w4 ⟨rfl, g4, hst⟩; have HSt := Lib.hid hst; clear hst) | (go_at_call 58; (with_reducible refine (HWr.out _ g4 o c ?hws ?hC).mono ?_); (case hws => exact HSt.out.now); (case hC => exact HCk.out _ _ _ _ HCp.out HSt.out); rintro e w5 ⟨rfl, g5, hst⟩; have HSu := Lib.hid hst; clear hst))
      go_end0
      exact ⟨rfl, g5, (HSt.out.trans HSu.out).prior (Ses.below_put HGr.out) htg⟩
    · obtain rfl : sz = k := by omega
      go_enter Tryd.func42, Tryd.ntmps42
      go_wp2_with (first | (go_at_call 60; (with_reducible refine (HPut.out _).mono ?_); rintro e w2 ⟨rfl, hrow, hgr⟩; have HRow := Lib.hid hrow; have HGr := Lib.hid hgr; clear hrow hgr) | (go_at_call 61; (with_reducible refine (HTr.out _ HRow.out).mono ?_); rintro e w3 ⟨o, c, rfl, hC, rfl⟩; have HCp := Lib.hid hC; clear hC; rw [HK.out.symm]) | (go_at_call 59; (with_reducible refine (HBy.out _ ?hws).mono ?_); (case hws => exact HW3.out _ HGr.out); rintro e w4 ⟨rfl, g4, hst⟩; have HSt := Lib.hid hst; clear hst) | (go_at_call 58; (with_reducible refine (HWr.out _ g4 o c ?hws ?hC).mono ?_); (case hws => exact HSt.out.now); (case hC => exact HCk.out _ _ _ _ HCp.out HSt.out); rintro e w5 ⟨rfl, g5, hst⟩; have HSu := Lib.hid hst; clear hst))
      go_end0
      exact ⟨rfl, g5, (HSt.out.trans HSu.out).prior (Ses.below_put HGr.out) htg⟩
set_option maxHeartbeats 4000000 in
set_option maxRecDepth 100000 in
theorem putUint_one (b g : Nat) (big : Bool) (chunk : Int) (out : List Int) (n : Nat) (be cp : Bool) (w : World) (h : Ses.WS w b g big chunk out) (hn : (n : Int) < 256) (hlim : out.length + 9 ≤ 140737488355328) :
    Calls Tryd.prog 43 #[.pointer (some ⟨b, 0, none⟩), .iface 27 (.int .u64 n), .int .u8 1, .bool be, .bool cp] w (Ses.WP (.tuple #[]) b g big chunk (out ++ [(n : Int)]) w) := by
  have HBy := Lib.hid (Ses.ws_byte b g big chunk out (n : Int) w h (by omega))
  have pw : IntKind.u8.wrap (n : Int) = (n : Int) := by simp [IntKind.wrap, IntKind.bits, IntKind.signed]; omega
  have t0 := Ses.ta_uint64_int64; have t1 := Ses.ta_uint64_int32; have t2 := Ses.ta_uint64_int16; have t3 := Ses.ta_uint64_int8; have t4 := Ses.ta_uint64_uint64
  clear h hn hlim
  go_enter Tryd.func43, Tryd.ntmps43
  go_wp2_with (go_at_call 59; (with_reducible refine HBy.out.mono ?_); rintro e w4 ⟨rfl, g4, hst⟩; have HSt := Lib.hid hst; clear hst)
  go_end0
  exact ⟨rfl, g4, HSt.out⟩
set_option maxHeartbeats 4000000 in
set_option maxRecDepth 100000 in
theorem putInt_one (b g : Nat) (big : Bool) (chunk : Int) (out : List Int) (n : Nat) (be cp : Bool) (w : World) (h : Ses.WS w b g big chunk out) (hn : (n : Int) < 256) (hlim : out.length + 9 ≤ 140737488355328) :
    Calls Tryd.prog 42 #[.pointer (some ⟨b, 0, none⟩), .iface 2 (.int .i64 n), .int .u8 1, .bool be, .bool false] w (Ses.WP (.tuple #[]) b g big chunk (out ++ [(n : Int)]) w) := by
  have HBy := Lib.hid (Ses.ws_byte b g big chunk out (n : Int) w h (by omega))
  have pw : IntKind.u8.wrap (n : Int) = (n : Int) := by simp [IntKind.wrap, IntKind.bits, IntKind.signed]; omega
  have pi : IntKind.i64.wrap (n : Int) = (n : Int) := (IntKind.wrap_i64 _).trans (by omega)
  have t0 := Ses.ta_int64_int64
  clear h hn hlim
  go_enter Tryd.func42, Tryd.ntmps42
  go_wp2_with (go_at_call 59; (with_reducible refine HBy.out.mono ?_); rintro e w4 ⟨rfl, g4, hst⟩; have HSt := Lib.hid hst; clear hst)
  go_end0
  exact ⟨rfl, g4, HSt.out⟩
set_option maxHeartbeats 4000000 in
set_option maxRecDepth 100000 in
theorem putUint_be2 (b g : Nat) (big : Bool) (chunk : Int) (out : List Int) (n : Nat) (w : World) (h : Ses.WS w b g big chunk out) (hn : (n : Int) < 65536) (hlim : out.length + 9 ≤ 140737488355328) :
    Calls Tryd.prog 43 #[.pointer (some ⟨b, 0, none⟩), .iface 27 (.int .u64 n), .int .u8 2, .bool true, .bool false] w (Ses.WP (.tuple #[]) b g big chunk (out ++ (Dg.plainL 2 (n : Int)).reverse) w) := by
  have htb := h.lt
  have htg := h.ltg
  have HMk := Ses.mk2
  have HPut := Lib.hid (fun W : World => Ses.bePut2 W.heap.size 2 n Ses.zeros2b (W.alloc (.cells Ses.zeros2b 5)) (by omega) (xb_new W _) rfl)
  have HWS := Lib.hid h
  have pu : IntKind.u64.wrap (n : Int) = (n : Int) := by simp [IntKind.wrap, IntKind.bits, IntKind.signed]; omega
  have pw : IntKind.u16.wrap (n : Int) = (n : Int) := by simp [IntKind.wrap, IntKind.bits, IntKind.signed]; omega
  have HLim := Lib.hid hlim
  have t0 := Ses.ta_uint64_int64; have t1 := Ses.ta_uint64_int32; have t2 := Ses.ta_uint64_int16; have t3 := Ses.ta_uint64_int8; have t4 := Ses.ta_uint64_uint64
  have hll : (Dg.plainL 2 (n : Int)).reverse.length = 2 := by first | rw [List.length_reverse, Dg.plainL_len] | rw [Dg.plainL_len]
  obtain ⟨l, hl⟩ : ∃ l, l = (Dg.plainL 2 (n : Int)).reverse := ⟨_, rfl⟩
  rw [← hl] at HPut hll ⊢
  have HLl := Lib.hid hll
  have HNb := Lib.hid (show ¬ w.heap.size = b by omega)
  have HNg := Lib.hid (show ¬ w.heap.size = g by omega)
  clear h hl hll hlim hn
  have HW3 : Hid (∀ W : World, (w.alloc (.cells Ses.zeros2b 5)).grownBy W (some w.heap.size) → Ses.WS W b g big chunk out) := Lib.hid (fun W hW => (HWS.out.bl (below_alloc (Below.refl _ _) _)).grown hW (fun e => HNb.out (Option.some.inj e).symm) (fun e => HNg.out (Option.some.inj e).symm))
  have HWr : Hid (∀ W : World, Ses.RowAt W w.heap.size l → Ses.WS W b g big chunk out → Calls Tryd.prog 58 #[.pointer (some ⟨b, 1, none⟩), .slice (some ⟨w.heap.size, 0, none⟩) 2 2] W (Ses.WP (.tuple #[.int .i64 2, .nilIface]) b g big chunk (out ++ l) W)) := Lib.hid (fun W hr h => by
    have hC := C_of (k := .u8) (w := W) (l := l) (g := w.heap.size) (o := 0) (by rw [HLl.out]; omega) (fun i hi => by rw [Nat.zero_add]; exact hr i hi)
    have hw := Ses.ws_write b g big chunk out l (some ⟨w.heap.size, 0, none⟩) 2 W h hC (fun a e => by injection e with e; subst e; exact HNb.out) (by rw [HLl.out]; have := HLim.out; omega)
    rw [HLl.out] at hw
    exact hw)
  go_enter Tryd.func43, Tryd.ntmps43
  go_wp2_with (first | (go_at_call 62; (with_reducible refine (HPut.out _).mono ?_); rintro e w2 ⟨rfl, hrow, hgr⟩; have HRow := Lib.hid hrow; have HGr := Lib.hid hgr; clear hrow hgr) | (go_at_call 58; (with_reducible refine (HWr.out _ HRow.out ?hws).mono ?_); (case hws => exact HW3.out _ HGr.out); rintro e w5 ⟨rfl, g5, hst⟩; have HSu := Lib.hid hst; clear hst))
  go_end0
  exact ⟨rfl, g5, HSu.out.prior (Ses.below_put HGr.out) htg⟩
set_option maxHeartbeats 4000000 in
set_option maxRecDepth 100000 in
theorem putUint_le2 (b g : Nat) (big : Bool) (chunk : Int) (out : List Int) (n : Nat) (w : World) (h : Ses.WS w b g big chunk out) (hn : (n : Int) < 65536) (hlim : out.length + 9 ≤ 140737488355328) :
    Calls Tryd.prog 43 #[.pointer (some ⟨b, 0, none⟩), .iface 27 (.int .u64 n), .int .u8 2, .bool false, .bool false] w (Ses.WP (.tuple #[]) b g big chunk (out ++ (Dg.plainL 2 (n : Int))) w) := by
  have htb := h.lt
  have htg := h.ltg
  have HMk := Ses.mk2
  have HPut := Lib.hid (fun W : World => Ses.lePut2 W.heap.size 2 n Ses.zeros2b (W.alloc (.cells Ses.zeros2b 5)) (by omega) (xb_new W _) rfl)
  have HWS := Lib.hid h
  have pu : IntKind.u64.wrap (n : Int) = (n : Int) := by simp [IntKind.wrap, IntKind.bits, IntKind.signed]; omega
  have pw : IntKind.u16.wrap (n : Int) = (n : Int) := by simp [IntKind.wrap, IntKind.bits, IntKind.signed]; omega
  have HLim := Lib.hid hlim
  have t0 := Ses.ta_uint64_int64; have t1 := Ses.ta_uint64_int32; have t2 := Ses.ta_uint64_int16; have t3 := Ses.ta_uint64_int8; have t4 := Ses.ta_uint64_uint64
  have hll : (Dg.plainL 2 (n : Int)).length = 2 := by first | rw [List.length_reverse, Dg.plainL_len] | rw [Dg.plainL_len]
  obtain ⟨l, hl⟩ : ∃ l, l = (Dg.plainL 2 (n : Int)) := ⟨_, rfl⟩
  rw [← hl] at HPut hll ⊢
  have HLl := Lib.hid hll
  have HNb := Lib.hid (show ¬ w.heap.size = b by omega)
  have HNg := Lib.hid (show ¬ w.heap.size = g by omega)
  clear h hl hll hlim hn
  have HW3 : Hid (∀ W : World, (w.alloc (.cells Ses.zeros2b 5)).grownBy W (some w.heap.size) → Ses.WS W b g big chunk out) := Lib.hid (fun W hW => (HWS.out.bl (below_alloc (Below.refl _ _) _)).grown hW (fun e => HNb.out (Option.some.inj e).symm) (fun e => HNg.out (Option.some.inj e).symm))
  have HWr : Hid (∀ W : World, Ses.RowAt W w.heap.size l → Ses.WS W b g big chunk out → Calls Tryd.prog 58 #[.pointer (some ⟨b, 1, none⟩), .slice (some ⟨w.heap.size, 0, none⟩) 2 2] W (Ses.WP (.tuple #[.int .i64 2, .nilIface]) b g big chunk (out ++ l) W)) := Lib.hid (fun W hr h => by
    have hC := C_of (k := .u8) (w := W) (l := l) (g := w.heap.size) (o := 0) (by rw [HLl.out]; omega) (fun i hi => by rw [Nat.zero_add]; exact hr i hi)
    have hw := Ses.ws_write b g big chunk out l (some ⟨w.heap.size, 0, none⟩) 2 W h hC (fun a e => by injection e with e; subst e; exact HNb.out) (by rw [HLl.out]; have := HLim.out; omega)
    rw [HLl.out] at hw
    exact hw)
  go_enter Tryd.func43, Tryd.ntmps43
  go_wp2_with (first | (go_at_call 64; (with_reducible refine (HPut.out _).mono ?_); rintro e w2 ⟨rfl, hrow, hgr⟩; have HRow := Lib.hid hrow; have HGr := Lib.hid hgr; clear hrow hgr) | (go_at_call 58; (with_reducible refine (HWr.out _ HRow.out ?hws).mono ?_); (case hws => exact HW3.out _ HGr.out); rintro e w5 ⟨rfl, g5, hst⟩; have HSu := Lib.hid hst; clear hst))
  go_end0
  exact ⟨rfl, g5, HSu.out.prior (Ses.below_put HGr.out) htg⟩
set_option maxHeartbeats 4000000 in
set_option maxRecDepth 100000 in
theorem putUint_be4 (b g : Nat) (big : Bool) (chunk : Int) (out : List Int) (n : Nat) (w : World) (h : Ses.WS w b g big chunk out) (hn : (n : Int) < 4294967296) (hlim : out.length + 9 ≤ 140737488355328) :
    Calls Tryd.prog 43 #[.pointer (some ⟨b, 0, none⟩), .iface 27 (.int .u64 n), .int .u8 4, .bool true, .bool false] w (Ses.WP (.tuple #[]) b g big chunk (out ++ (Dg.plainL 4 (n : Int)).reverse) w) := by
  have htb := h.lt
  have htg := h.ltg
  have HMk := Ses.mk4
  have HPut := Lib.hid (fun W : World => Ses.bePut4 W.heap.size 4 n Ses.zeros4b (W.alloc (.cells Ses.zeros4b 5)) (by omega) (xb_new W _) rfl)
  have HWS := Lib.hid h
  have pu : IntKind.u64.wrap (n : Int) = (n : Int) := by simp [IntKind.wrap, IntKind.bits, IntKind.signed]; omega
  have pw : IntKind.u32.wrap (n : Int) = (n : Int) := by simp [IntKind.wrap, IntKind.bits, IntKind.signed]; omega
  have HLim := Lib.hid hlim
  have t0 := Ses.ta_uint64_int64; have t1 := Ses.ta_uint64_int32; have t2 := Ses.ta_uint64_int16; have t3 := Ses.ta_uint64_int8; have t4 := Ses.ta_uint64_uint64
  have hll : (Dg.plainL 4 (n : Int)).reverse.length = 4 := by first | rw [List.length_reverse, Dg.plainL_len] | rw [Dg.plainL_len]
  obtain ⟨l, hl⟩ : ∃ l, l = (Dg.plainL 4 (n : Int)).reverse := ⟨_, rfl⟩
  rw [← hl] at HPut hll ⊢
  have HLl := Lib.hid hll
  have HNb := Lib.hid (show ¬ w.heap.size = b by omega)
  have HNg := Lib.hid (show ¬ w.heap.size = g by omega)
  clear h hl hll hlim hn
  have HW3 : Hid (∀ W : World, (w.alloc (.cells Ses.zeros4b 5)).grownBy W (some w.heap.size) → Ses.WS W b g big chunk out) := Lib.hid (fun W hW => (HWS.out.bl (below_alloc (Below.refl _ _) _)).grown hW (fun e => HNb.out (Option.some.inj e).symm) (fun e => HNg.out (Option.some.inj e).symm))
  have HWr : Hid (∀ W : World, Ses.RowAt W w.heap.size l → Ses.WS W b g big chunk out → Calls Tryd.prog 58 #[.pointer (some ⟨b, 1, none⟩), .slice (some ⟨w.heap.size, 0, none⟩) 4 4] W (Ses.WP (.tuple #[.int .i64 4, .nilIface]) b g big chunk (out ++ l) W)) := Lib.hid (fun W hr h => by
    have hC := C_of (k := .u8) (w := W) (l := l) (g := w.heap.size) (o := 0) (by rw [HLl.out]; omega) (fun i hi => by rw [Nat.zero_add]; exact hr i hi)
    have hw := Ses.ws_write b g big chunk out l (some ⟨w.heap.size, 0, none⟩) 4 W h hC (fun a e => by injection e with e; subst e; exact HNb.out) (by rw [HLl.out]; have := HLim.out; omega)
    rw [HLl.out] at hw
    exact hw)
  go_enter Tryd.func43, Tryd.ntmps43
  go_wp2_with (first | (go_at_call 63; (with_reducible refine (HPut.out _).mono ?_); rintro e w2 ⟨rfl, hrow, hgr⟩; have HRow := Lib.hid hrow; have HGr := Lib.hid hgr; clear hrow hgr) | (go_at_call 58; (with_reducible refine (HWr.out _ HRow.out ?hws).mono ?_); (case hws => exact HW3.out _ HGr.out); rintro e w5 ⟨rfl, g5, hst⟩; have HSu := Lib.hid hst; clear hst))
  go_end0
  exact ⟨rfl, g5, HSu.out.prior (Ses.below_put HGr.out) htg⟩
set_option maxHeartbeats 4000000 in
set_option maxRecDepth 100000 in
theorem putUint_le4 (b g : Nat) (big : Bool) (chunk : Int) (out : List Int) (n : Nat) (w : World) (h : Ses.WS w b g big chunk out) (hn : (n : Int) < 4294967296) (hlim : out.length + 9 ≤ 140737488355328) :
    Calls Tryd.prog 43 #[.pointer (some ⟨b, 0, none⟩), .iface 27 (.int .u64 n), .int .u8 4, .bool false, .bool false] w (Ses.WP (.tuple #[]) b g big chunk (out ++ (Dg.plainL 4 (n : Int))) w) := by
  have htb := h.lt
  have htg := h.ltg
  have HMk := Ses.mk4
  have HPut := Lib.hid (fun W : World => Ses.lePut4 W.heap.size 4 n Ses.zeros4b (W.alloc (.cells Ses.zeros4b 5)) (by omega) (xb_new W _) rfl)
  have HWS := Lib.hid h
  have pu : IntKind.u64.wrap (n : Int) = (n : Int) := by simp [IntKind.wrap, IntKind.bits, IntKind.signed]; omega
  have pw : IntKind.u32.wrap (n : Int) = (n : Int) := by simp [IntKind.wrap, IntKind.bits, IntKind.signed]; omega
  have HLim := Lib.hid hlim
  have t0 := Ses.ta_uint64_int64; have t1 := Ses.ta_uint64_int32; have t2 := Ses.ta_uint64_int16; have t3 := Ses.ta_uint64_int8; have t4 := Ses.ta_uint64_uint64
  have hll : (Dg.plainL 4 (n : Int)).length = 4 := by first | rw [List.length_reverse, Dg.plainL_len] | rw [Dg.plainL_len]
  obtain ⟨l, hl⟩ : ∃ l, l = (Dg.plainL 4 (n : Int)) := ⟨_, rfl⟩
  rw [← hl] at HPut hll ⊢
  have HLl := Lib.hid hll
  have HNb := Lib.hid (show ¬ w.heap.size = b by omega)
  have HNg := Lib.hid (show ¬ w.heap.size = g by omega)
  clear h hl hll hlim hn
  have HW3 : Hid (∀ W : World, (w.alloc (.cells Ses.zeros4b 5)).grownBy W (some w.heap.size) → Ses.WS W b g big chunk out) := Lib.hid (fun W hW => (HWS.out.bl (below_alloc (Below.refl _ _) _)).grown hW (fun e => HNb.out (Option.some.inj e).symm) (fun e => HNg.out (Option.some.inj e).symm))
  have HWr : Hid (∀ W : World, Ses.RowAt W w.heap.size l → Ses.WS W b g big chunk out → Calls Tryd.prog 58 #[.pointer (some ⟨b, 1, none⟩), .slice (some ⟨w.heap.size, 0, none⟩) 4 4] W (Ses.WP (.tuple #[.int .i64 4, .nilIface]) b g big chunk (out ++ l) W)) := Lib.hid (fun W hr h => by
    have hC := C_of (k := .u8) (w := W) (l := l) (g := w.heap.size) (o := 0) (by rw [HLl.out]; omega) (fun i hi => by rw [Nat.zero_add]; exact hr i hi)
    have hw := Ses.ws_write b g big chunk out l (some ⟨w.heap.size, 0, none⟩) 4 W h hC (fun a e => by injection e with e; subst e; exact HNb.out) (by rw [HLl.out]; have := HLim.out; omega)
    rw [HLl.out] at hw
    exact hw)
  go_enter Tryd.func43, Tryd.ntmps43
  go_wp2_with (first | (go_at_call 65; (with_reducible refine (HPut.out _).mono ?_); rintro e w2 ⟨rfl, hrow, hgr⟩; have HRow := Lib.hid hrow; have HGr := Lib.hid hgr; clear hrow hgr) | (go_at_call 58; (with_reducible refine (HWr.out _ HRow.out ?hws).mono ?_); (case hws => exact HW3.out _ HGr.out); rintro e w5 ⟨rfl, g5, hst⟩; have HSu := Lib.hid hst; clear hst))
  go_end0
  exact ⟨rfl, g5, HSu.out.prior (Ses.below_put HGr.out) htg⟩
set_option maxHeartbeats 4000000 in
set_option maxRecDepth 100000 in
theorem putUint_be8 (b g : Nat) (big : Bool) (chunk : Int) (out : List Int) (n : Nat) (w : World) (h : Ses.WS w b g big chunk out) (hn : (n : Int) < 18446744073709551616) (hlim : out.length + 9 ≤ 140737488355328) :
    Calls Tryd.prog 43 #[.pointer (some ⟨b, 0, none⟩), .iface 27 (.int .u64 n), .int .u8 8, .bool true, .bool false] w (Ses.WP (.tuple #[]) b g big chunk (out ++ (Dg.plainL 8 (n : Int)).reverse) w) := by
  have htb := h.lt
  have htg := h.ltg
  have HMk := Ses.mk8
  have HPut := Lib.hid (fun W : World => Ses.bePut8 W.heap.size 8 n Ses.zeros8b (W.alloc (.cells Ses.zeros8b 5)) (by omega) (xb_new W _) rfl)
  have HWS := Lib.hid h
  have pu : IntKind.u64.wrap (n : Int) = (n : Int) := by simp [IntKind.wrap, IntKind.bits, IntKind.signed]; omega
  have HLim := Lib.hid hlim
  have t0 := Ses.ta_uint64_int64; have t1 := Ses.ta_uint64_int32; have t2 := Ses.ta_uint64_int16; have t3 := Ses.ta_uint64_int8; have t4 := Ses.ta_uint64_uint64
  have hll : (Dg.plainL 8 (n : Int)).reverse.length = 8 := by first | rw [List.length_reverse, Dg.plainL_len] | rw [Dg.plainL_len]
  obtain ⟨l, hl⟩ : ∃ l, l = (Dg.plainL 8 (n : Int)).reverse := ⟨_, rfl⟩
  rw [← hl] at HPut hll ⊢
  have HLl := Lib.hid hll
  have HNb := Lib.hid (show ¬ w.heap.size = b by omega)
  have HNg := Lib.hid (show ¬ w.heap.size = g by omega)
  clear h hl hll hlim hn
  have HW3 : Hid (∀ W : World, (w.alloc (.cells Ses.zeros8b 5)).grownBy W (some w.heap.size) → Ses.WS W b g big chunk out) := Lib.hid (fun W hW => (HWS.out.bl (below_alloc (Below.refl _ _) _)).grown hW (fun e => HNb.out (Option.some.inj e).symm) (fun e => HNg.out (Option.some.inj e).symm))
  have HWr : Hid (∀ W : World, Ses.RowAt W w.heap.size l → Ses.WS W b g big chunk out → Calls Tryd.prog 58 #[.pointer (some ⟨b, 1, none⟩), .slice (some ⟨w.heap.size, 0, none⟩) 8 8] W (Ses.WP (.tuple #[.int .i64 8, .nilIface]) b g big chunk (out ++ l) W)) := Lib.hid (fun W hr h => by
    have hC := C_of (k := .u8) (w := W) (l := l) (g := w.heap.size) (o := 0) (by rw [HLl.out]; omega) (fun i hi => by rw [Nat.zero_add]; exact hr i hi)
    have hw := Ses.ws_write b g big chunk out l (some ⟨w.heap.size, 0, none⟩) 8 W h hC (fun a e => by injection e with e; subst e; exact HNb.out) (by rw [HLl.out]; have := HLim.out; omega)
    rw [HLl.out] at hw
    exact hw)
  go_enter Tryd.func43, Tryd.ntmps43
  go_wp2_with (first | (go_at_call 60; (with_reducible refine (HPut.out _).mono ?_); rintro e w2 ⟨rfl, hrow, hgr⟩; have HRow := Lib.hid hrow; have HGr := Lib.hid hgr; clear hrow hgr) | (go_at_call 58; (with_reducible refine (HWr.out _ HRow.out ?hws).mono ?_); (case hws => exact HW3.out _ HGr.out); rintro e w5 ⟨rfl, g5, hst⟩; have HSu := Lib.hid hst; clear hst))
  go_end0
  exact ⟨rfl, g5, HSu.out.prior (Ses.below_put HGr.out) htg⟩
set_option maxHeartbeats 4000000 in
set_option maxRecDepth 100000 in
theorem putUint_le8 (b g : Nat) (big : Bool) (chunk : Int) (out : List Int) (n : Nat) (w : World) (h : Ses.WS w b g big chunk out) (hn : (n : Int) < 18446744073709551616) (hlim : out.length + 9 ≤ 140737488355328) :
    Calls Tryd.prog 43 #[.pointer (some ⟨b, 0, none⟩), .iface 27 (.int .u64 n), .int .u8 8, .bool false, .bool false] w (Ses.WP (.tuple #[]) b g big chunk (out ++ (Dg.plainL 8 (n : Int))) w) := by
  have htb := h.lt
  have htg := h.ltg
  have HMk := Ses.mk8
  have HPut := Lib.hid (fun W : World => Ses.lePut8 W.heap.size 8 n Ses.zeros8b (W.alloc (.cells Ses.zeros8b 5)) (by omega) (xb_new W _) rfl)
  have HWS := Lib.hid h
  have pu : IntKind.u64.wrap (n : Int) = (n : Int) := by simp [IntKind.wrap, IntKind.bits, IntKind.signed]; omega
  have HLim := Lib.hid hlim
  have t0 := Ses.ta_uint64_int64; have t1 := Ses.ta_uint64_int32; have t2 := Ses.ta_uint64_int16; have t3 := Ses.ta_uint64_int8; have t4 := Ses.ta_uint64_uint64
  have hll : (Dg.plainL 8 (n : Int)).length = 8 := by first | rw [List.length_reverse, Dg.plainL_len] | rw [Dg.plainL_len]
  obtain ⟨l, hl⟩ : ∃ l, l = (Dg.plainL 8 (n : Int)) := ⟨_, rfl⟩
  rw [← hl] at HPut hll ⊢
  have HLl := Lib.hid hll
  have HNb := Lib.hid (show ¬ w.heap.size = b by omega)
  have HNg := Lib.hid (show ¬ w.heap.size = g by omega)
  clear h hl hll hlim hn
  have HW3 : Hid (∀ W : World, (w.alloc (.cells Ses.zeros8b 5)).grownBy W (some w.heap.size) → Ses.WS W b g big chunk out) := Lib.hid (fun W hW => (HWS.out.bl (below_alloc (Below.refl _ _) _)).grown hW (fun e => HNb.out (Option.some.inj e).symm) (fun e => HNg.out (Option.some.inj e).symm))
  have HWr : Hid (∀ W : World, Ses.RowAt W w.heap.size l → Ses.WS W b g big chunk out → Calls Tryd.prog 58 #[.pointer (some ⟨b, 1, none⟩), .slice (some ⟨w.heap.size, 0, none⟩) 8 8] W (Ses.WP (.tuple #[.int .i64 8, .nilIface]) b g big chunk (out ++ l) W)) := Lib.hid (fun W hr h => by
    have hC := C_of (k := .u8) (w := W) (l := l) (g := w.heap.size) (o := 0) (by rw [HLl.out]; omega) (fun i hi => by rw [Nat.zero_add]; exact hr i hi)
    have hw := Ses.ws_write b g big chunk out l (some ⟨w.heap.size, 0, none⟩) 8 W h hC (fun a e => by injection e with e; subst e; exact HNb.out) (by rw [HLl.out]; have := HLim.out; omega)
    rw [HLl.out] at hw
    exact hw)
  go_enter Tryd.func43, Tryd.ntmps43
  go_wp2_with (first | (go_at_call 66; (with_reducible refine (HPut.out _).mono ?_); rintro e w2 ⟨rfl, hrow, hgr⟩; have HRow := Lib.hid hrow; have HGr := Lib.hid hgr; clear hrow hgr) | (go_at_call 58; (with_reducible refine (HWr.out _ HRow.out ?hws).mono ?_); (case hws => exact HW3.out _ HGr.out); rintro e w5 ⟨rfl, g5, hst⟩; have HSu := Lib.hid hst; clear hst))
  go_end0
  exact ⟨rfl, g5, HSu.out.prior (Ses.below_put HGr.out) htg⟩
set_option maxHeartbeats 4000000 in
set_option maxRecDepth 100000 in
theorem putInt_be2 (b g : Nat) (big : Bool) (chunk : Int) (out : List Int) (n : Nat) (w : World) (h : Ses.WS w b g big chunk out) (hn : (n : Int) < 65536) (hlim : out.length + 9 ≤ 140737488355328) :
    Calls Tryd.prog 42 #[.pointer (some ⟨b, 0, none⟩), .iface 2 (.int .i64 n), .int .u8 2, .bool true, .bool false] w (Ses.WP (.tuple #[]) b g big chunk (out ++ (Dg.plainL 2 (n : Int)).reverse) w) := by
  have htb := h.lt
  have htg := h.ltg
  have HMk := Ses.mk2
  have HPut := Lib.hid (fun W : World => Ses.bePut2 W.heap.size 2 n Ses.zeros2b (W.alloc (.cells Ses.zeros2b 5)) (by omega) (xb_new W _) rfl)
  have HWS := Lib.hid h
  have pu : IntKind.u64.wrap (n : Int) = (n : Int) := by simp [IntKind.wrap, IntKind.bits, IntKind.signed]; omega
  have pi : IntKind.i64.wrap (n : Int) = (n : Int) := (IntKind.wrap_i64 _).trans (by omega)
  have pw : IntKind.u16.wrap (n : Int) = (n : Int) := by simp [IntKind.wrap, IntKind.bits, IntKind.signed]; omega
  have HLim := Lib.hid hlim
  have t0 := Ses.ta_int64_int64
  have hll : (Dg.plainL 2 (n : Int)).reverse.length = 2 := by first | rw [List.length_reverse, Dg.plainL_len] | rw [Dg.plainL_len]
  obtain ⟨l, hl⟩ : ∃ l, l = (Dg.plainL 2 (n : Int)).reverse := ⟨_, rfl⟩
  rw [← hl] at HPut hll ⊢
  have HLl := Lib.hid hll
  have HNb := Lib.hid (show ¬ w.heap.size = b by omega)
  have HNg := Lib.hid (show ¬ w.heap.size = g by omega)
  clear h hl hll hlim hn
  have HW3 : Hid (∀ W : World, (w.alloc (.cells Ses.zeros2b 5)).grownBy W (some w.heap.size) → Ses.WS W b g big chunk out) := Lib.hid (fun W hW => (HWS.out.bl (below_alloc (Below.refl _ _) _)).grown hW (fun e => HNb.out (Option.some.inj e).symm) (fun e => HNg.out (Option.some.inj e).symm))
  have HWr : Hid (∀ W : World, Ses.RowAt W w.heap.size l → Ses.WS W b g big chunk out → Calls Tryd.prog 58 #[.pointer (some ⟨b, 1, none⟩), .slice (some ⟨w.heap.size, 0, none⟩) 2 2] W (Ses.WP (.tuple #[.int .i64 2, .nilIface]) b g big chunk (out ++ l) W)) := Lib.hid (fun W hr h => by
    have hC := C_of (k := .u8) (w := W) (l := l) (g := w.heap.size) (o := 0) (by rw [HLl.out]; omega) (fun i hi => by rw [Nat.zero_add]; exact hr i hi)
    have hw := Ses.ws_write b g big chunk out l (some ⟨w.heap.size, 0, none⟩) 2 W h hC (fun a e => by injection e with e; subst e; exact HNb.out) (by rw [HLl.out]; have := HLim.out; omega)
    rw [HLl.out] at hw
    exact hw)
  go_enter Tryd.func42, Tryd.ntmps42
  go_wp2_with (first | (go_at_call 62; (with_reducible refine (HPut.out _).mono ?_); rintro e w2 ⟨rfl, hrow, hgr⟩; have HRow := Lib.hid hrow; have HGr := Lib.hid hgr; clear hrow hgr) | (go_at_call 58; (with_reducible refine (HWr.out _ HRow.out ?hws).mono ?_); (case hws => exact HW3.out _ HGr.out); rintro e w5 ⟨rfl, g5, hst⟩; have HSu := Lib.hid hst; clear hst))
  go_end0
  exact ⟨rfl, g5, HSu.out.prior (Ses.below_put HGr.out) htg⟩
set_option maxHeartbeats 4000000 in
set_option maxRecDepth 100000 in
theorem putInt_le2 (b g : Nat) (big : Bool) (chunk : Int) (out : List Int) (n : Nat) (w : World) (h : Ses.WS w b g big chunk out) (hn : (n : Int) < 65536) (hlim : out.length + 9 ≤ 140737488355328) :
    Calls Tryd.prog 42 #[.pointer (some ⟨b, 0, none⟩), .iface 2 (.int .i64 n), .int .u8 2, .bool false, .bool false] w (Ses.WP (.tuple #[]) b g big chunk (out ++ (Dg.plainL 2 (n : Int))) w) := by
  have htb := h.lt
  have htg := h.ltg
  have HMk := Ses.mk2
  have HPut := Lib.hid (fun W : World => Ses.lePut2 W.heap.size 2 n Ses.zeros2b (W.alloc (.cells Ses.zeros2b 5)) (by omega) (xb_new W _) rfl)
  have HWS := Lib.hid h
  have pu : IntKind.u64.wrap (n : Int) = (n : Int) := by simp [IntKind.wrap, IntKind.bits, IntKind.signed]; omega
  have pi : IntKind.i64.wrap (n : Int) = (n : Int) := (IntKind.wrap_i64 _).trans (by omega)
  have pw : IntKind.u16.wrap (n : Int) = (n : Int) := by simp [IntKind.wrap, IntKind.bits, IntKind.signed]; omega
  have HLim := Lib.hid hlim
  have t0 := Ses.ta_int64_int64
  have hll : (Dg.plainL 2 (n : Int)).length = 2 := by first | rw [List.length_reverse, Dg.plainL_len] | rw [Dg.plainL_len]
  obtain ⟨l, hl⟩ : ∃ l, l = (Dg.plainL 2 (n : Int)) := ⟨_, rfl⟩
  rw [← hl] at HPut hll ⊢
  have HLl := Lib.hid hll
  have HNb := Lib.hid (show ¬ w.heap.size = b by omega)
  have HNg := Lib.hid (show ¬ w.heap.size = g by omega)
  clear h hl hll hlim hn
  have HW3 : Hid (∀ W : World, (w.alloc (.cells Ses.zeros2b 5)).grownBy W (some w.heap.size) → Ses.WS W b g big chunk out) := Lib.hid (fun W hW => (HWS.out.bl (below_alloc (Below.refl _ _) _)).grown hW (fun e => HNb.out (Option.some.inj e).symm) (fun e => HNg.out (Option.some.inj e).symm))
  have HWr : Hid (∀ W : World, Ses.RowAt W w.heap.size l → Ses.WS W b g big chunk out → Calls Tryd.prog 58 #[.pointer (some ⟨b, 1, none⟩), .slice (some ⟨w.heap.size, 0, none⟩) 2 2] W (Ses.WP (.tuple #[.int .i64 2, .nilIface]) b g big chunk (out ++ l) W)) := Lib.hid (fun W hr h => by
    have hC := C_of (k := .u8) (w := W) (l := l) (g := w.heap.size) (o := 0) (by rw [HLl.out]; omega) (fun i hi => by rw [Nat.zero_add]; exact hr i hi)
    have hw := Ses.ws_write b g big chunk out l (some ⟨w.heap.size, 0, none⟩) 2 W h hC (fun a e => by injection e with e; subst e; exact HNb.out) (by rw [HLl.out]; have := HLim.out; omega)
    rw [HLl.out] at hw
    exact hw)
  go_enter Tryd.func42, Tryd.ntmps42
  go_wp2_with (first | (go_at_call 64; (with_reducible refine (HPut.out _).mono ?_); rintro e w2 ⟨rfl, hrow, hgr⟩; have HRow := Lib.hid hrow; have HGr := Lib.hid hgr; clear hrow hgr) | (go_at_call 58; (with_reducible refine (HWr.out _ HRow.out ?hws).mono ?_); (case hws => exact HW3.out _ HGr.out); rintro e w5 ⟨rfl, g5, hst⟩; have HSu := Lib.hid hst; clear hst))
  go_end0
  exact ⟨rfl, g5, HSu.out.prior (Ses.below_put HGr.out) htg⟩
set_option maxHeartbeats 4000000 in
set_option maxRecDepth 100000 in
theorem putInt_be4 (b g : Nat) (big : Bool) (chunk : Int) (out : List Int) (n : Nat) (w : World) (h : Ses.WS w b g big chunk out) (hn : (n : Int) < 4294967296) (hlim : out.length + 9 ≤ 140737488355328) :
    Calls Tryd.prog 42 #[.pointer (some ⟨b, 0, none⟩), .iface 2 (.int .i64 n), .int .u8 4, .bool true, .bool false] w (Ses.WP (.tuple #[]) b g big chunk (out ++ (Dg.plainL 4 (n : Int)).reverse) w) := by
  have htb := h.lt
  have htg := h.ltg
  have HMk := Ses.mk4
  have HPut := Lib.hid (fun W : World => Ses.bePut4 W.heap.size 4 n Ses.zeros4b (W.alloc (.cells Ses.zeros4b 5)) (by omega) (xb_new W _) rfl)
  have HWS := Lib.hid h
  have pu : IntKind.u64.wrap (n : Int) = (n : Int) := by simp [IntKind.wrap, IntKind.bits, IntKind.signed]; omega
  have pi : IntKind.i64.wrap (n : Int) = (n : Int) := (IntKind.wrap_i64 _).trans (by omega)
  have pw : IntKind.u32.wrap (n : Int) = (n : Int) := by simp [IntKind.wrap, IntKind.bits, IntKind.signed]; omega
  have HLim := Lib.hid hlim
  have t0 := Ses.ta_int64_int64
  have hll : (Dg.plainL 4 (n : Int)).reverse.length = 4 := by first | rw [List.length_reverse, Dg.plainL_len] | rw [Dg.plainL_len]
  obtain ⟨l, hl⟩ : ∃ l, l = (Dg.plainL 4 (n : Int)).reverse := ⟨_, rfl⟩
  rw [← hl] at HPut hll ⊢
  have HLl := Lib.hid hll
  have HNb := Lib.hid (show ¬ w.heap.size = b by omega)
  have HNg := Lib.hid (show ¬ w.heap.size = g by omega)
  clear h hl hll hlim hn
  have HW3 : Hid (∀ W : World, (w.alloc (.cells Ses.zeros4b 5)).grownBy W (some w.heap.size) → Ses.WS W b g big chunk out) := Lib.hid (fun W hW => (HWS.out.bl (below_alloc (Below.refl _ _) _)).grown hW (fun e => HNb.out (Option.some.inj e).symm) (fun e => HNg.out (Option.some.inj e).symm))
  have HWr : Hid (∀ W : World, Ses.RowAt W w.heap.size l → Ses.WS W b g big chunk out → Calls Tryd.prog 58 #[.pointer (some ⟨b, 1, none⟩), .slice (some ⟨w.heap.size, 0, none⟩) 4 4] W (Ses.WP (.tuple #[.int .i64 4, .nilIface]) b g big chunk (out ++ l) W)) := Lib.hid (fun W hr h => by
    have hC := C_of (k := .u8) (w := W) (l := l) (g := w.heap.size) (o := 0) (by rw [HLl.out]; omega) (fun i hi => by rw [Nat.zero_add]; exact hr i hi)
    have hw := Ses.ws_write b g big chunk out l (some ⟨w.heap.size, 0, none⟩) 4 W h hC (fun a e => by injection e with e; subst e; exact HNb.out) (by rw [HLl.out]; have := HLim.out; omega)
    rw [HLl.out] at hw
    exact hw)
  go_enter Tryd.func42, Tryd.ntmps42
  go_wp2_with (first | (go_at_call 63; (with_reducible refine (HPut.out _).mono ?_); rintro e w2 ⟨rfl, hrow, hgr⟩; have HRow := Lib.hid hrow; have HGr := Lib.hid hgr; clear hrow hgr) | (go_at_call 58; (with_reducible refine (HWr.out _ HRow.out ?hws).mono ?_); (case hws => exact HW3.out _ HGr.out); rintro e w5 ⟨rfl, g5, hst⟩; have HSu := Lib.hid hst; clear hst))
  go_end0
  exact ⟨rfl, g5, HSu.out.prior (Ses.below_put HGr.out) htg⟩
set_option maxHeartbeats 4000000 in
set_option maxRecDepth 100000 in
theorem putInt_le4 (b g : Nat) (big : Bool) (chunk : Int) (out : List Int) (n : Nat) (w : World) (h : Ses.WS w b g big chunk out) (hn : (n : Int) < 4294967296) (hlim : out.length + 9 ≤ 140737488355328) :
    Calls Tryd.prog 42 #[.pointer (some ⟨b, 0, none⟩), .iface 2 (.int .i64 n), .int .u8 4, .bool false, .bool false] w (Ses.WP (.tuple #[]) b g big chunk (out ++ (Dg.plainL 4 (n : Int))) w) := by
  have htb := h.lt
  have htg := h.ltg
  have HMk := Ses.mk4
  have HPut := Lib.hid (fun W : World => Ses.lePut4 W.heap.size 4 n Ses.zeros4b (W.alloc (.cells Ses.zeros4b 5)) (by omega) (xb_new W _) rfl)
  have HWS := Lib.hid h
  have pu : IntKind.u64.wrap (n : Int) = (n : Int) := by simp [IntKind.wrap, IntKind.bits, IntKind.signed]; omega
  have pi : IntKind.i64.wrap (n : Int) = (n : Int) := (IntKind.wrap_i64 _).trans (by omega)
  have pw : IntKind.u32.wrap (n : Int) = (n : Int) := by simp [IntKind.wrap, IntKind.bits, IntKind.signed]; omega
  have HLim := Lib.hid hlim
  have t0 := Ses.ta_int64_int64
  have hll : (Dg.plainL 4 (n : Int)).length = 4 := by first | rw [List.length_reverse, Dg.plainL_len] | rw [Dg.plainL_len]
  obtain ⟨l, hl⟩ : ∃ l, l = (Dg.plainL 4 (n : Int)) := ⟨_, rfl⟩
  rw [← hl] at HPut hll ⊢
  have HLl := Lib.hid hll
  have HNb := Lib.hid (show ¬ w.heap.size = b by omega)
  have HNg := Lib.hid (show ¬ w.heap.size = g by omega)
  clear h hl hll hlim hn
  have HW3 : Hid (∀ W : World, (w.alloc (.cells Ses.zeros4b 5)).grownBy W (some w.heap.size) → Ses.WS W b g big chunk out) := Lib.hid (fun W hW => (HWS.out.bl (below_alloc (Below.refl _ _) _)).grown hW (fun e => HNb.out (Option.some.inj e).symm) (fun e => HNg.out (Option.some.inj e).symm))
  have HWr : Hid (∀ W : World, Ses.RowAt W w.heap.size l → Ses.WS W b g big chunk out → Calls Tryd.prog 58 #[.pointer (some ⟨b, 1, none⟩), .slice (some ⟨w.heap.size, 0, none⟩) 4 4] W (Ses.WP (.tuple #[.int .i64 4, .nilIface]) b g big chunk (out ++ l) W)) := Lib.hid (fun W hr h => by
    have hC := C_of (k := .u8) (w := W) (l := l) (g := w.heap.size) (o := 0) (by rw [HLl.out]; omega) (fun i hi => by rw [Nat.zero_add]; exact hr i hi)
    have hw := Ses.ws_write b g big chunk out l (some ⟨w.heap.size, 0, none⟩) 4 W h hC (fun a e => by injection e with e; subst e; exact HNb.out) (by rw [HLl.out]; have := HLim.out; omega)
    rw [HLl.out] at hw
    exact hw)
  go_enter Tryd.func42, Tryd.ntmps42
  go_wp2_with (first | (go_at_call 65; (with_reducible refine (HPut.out _).mono ?_); rintro e w2 ⟨rfl, hrow, hgr⟩; have HRow := Lib.hid hrow; have HGr := Lib.hid hgr; clear hrow hgr) | (go_at_call 58; (with_reducible refine (HWr.out _ HRow.out ?hws).mono ?_); (case hws => exact HW3.out _ HGr.out); rintro e w5 ⟨rfl, g5, hst⟩; have HSu := Lib.hid hst; clear hst))
  go_end0
  exact ⟨rfl, g5, HSu.out.prior (Ses.below_put HGr.out) htg⟩
set_option maxHeartbeats 4000000 in
set_option maxRecDepth 100000 in
theorem putInt_be8 (b g : Nat) (big : Bool) (chunk : Int) (out : List Int) (n : Nat) (w : World) (h : Ses.WS w b g big chunk out) (hn : (n : Int) < 9223372036854775808) (hlim : out.length + 9 ≤ 140737488355328) :
    Calls Tryd.prog 42 #[.pointer (some ⟨b, 0, none⟩), .iface 2 (.int .i64 n), .int .u8 8, .bool true, .bool false] w (Ses.WP (.tuple #[]) b g big chunk (out ++ (Dg.plainL 8 (n : Int)).reverse) w) := by
  have htb := h.lt
  have htg := h.ltg
  have HMk := Ses.mk8
  have HPut := Lib.hid (fun W : World => Ses.bePut8 W.heap.size 8 n Ses.zeros8b (W.alloc (.cells Ses.zeros8b 5)) (by omega) (xb_new W _) rfl)
  have HWS := Lib.hid h
  have pu : IntKind.u64.wrap (n : Int) = (n : Int) := by simp [IntKind.wrap, IntKind.bits, IntKind.signed]; omega
  have pi : IntKind.i64.wrap (n : Int) = (n : Int) := (IntKind.wrap_i64 _).trans (by omega)
  have HLim := Lib.hid hlim
  have t0 := Ses.ta_int64_int64
  have hll : (Dg.plainL 8 (n : Int)).reverse.length = 8 := by first | rw [List.length_reverse, Dg.plainL_len] | rw [Dg.plainL_len]
  obtain ⟨l, hl⟩ : ∃ l, l = (Dg.plainL 8 (n : Int)).reverse := ⟨_, rfl⟩
  rw [← hl] at HPut hll ⊢
  have HLl := Lib.hid hll
  have HNb := Lib.hid (show ¬ w.heap.size = b by omega)
  have HNg := Lib.hid (show ¬ w.heap.size = g by omega)
  clear h hl hll hlim hn
  have HW3 : Hid (∀ W : World, (w.alloc (.cells Ses.zeros8b 5)).grownBy W (some w.heap.size) → Ses.WS W b g big chunk out) := Lib.hid (fun W hW => (HWS.out.bl (below_alloc (Below.refl _ _) _)).grown hW (fun e => HNb.out (Option.some.inj e).symm) (fun e => HNg.out (Option.some.inj e).symm))
  have HWr : Hid (∀ W : World, Ses.RowAt W w.heap.size l → Ses.WS W b g big chunk out → Calls Tryd.prog 58 #[.pointer (some ⟨b, 1, none⟩), .slice (some ⟨w.heap.size, 0, none⟩) 8 8] W (Ses.WP (.tuple #[.int .i64 8, .nilIface]) b g big chunk (out ++ l) W)) := Lib.hid (fun W hr h => by
    have hC := C_of (k := .u8) (w := W) (l := l) (g := w.heap.size) (o := 0) (by rw [HLl.out]; omega) (fun i hi => by rw [Nat.zero_add]; exact hr i hi)
    have hw := Ses.ws_write b g big chunk out l (some ⟨w.heap.size, 0, none⟩) 8 W h hC (fun a e => by injection e with e; subst e; exact HNb.out) (by rw [HLl.out]; have := HLim.out; omega)
    rw [HLl.out] at hw
    exact hw)
  go_enter Tryd.func42, Tryd.ntmps42
  go_wp2_with (first | (go_at_call 60; (with_reducible refine (HPut.out _).mono ?_); rintro e w2 ⟨rfl, hrow, hgr⟩; have HRow := Lib.hid hrow; have HGr := Lib.hid hgr; clear hrow hgr) | (go_at_call 58; (with_reducible refine (HWr.out _ HRow.out ?hws).mono ?_); (case hws => exact HW3.out _ HGr.out); rintro e w5 ⟨rfl, g5, hst⟩; have HSu := Lib.hid hst; clear hst))
  go_end0
  exact ⟨rfl, g5, HSu.out.prior (Ses.below_put HGr.out) htg⟩
set_option maxHeartbeats 4000000 in
set_option maxRecDepth 100000 in
theorem putInt_le8 (b g : Nat) (big : Bool) (chunk : Int) (out : List Int) (n : Nat) (w : World) (h : Ses.WS w b g big chunk out) (hn : (n : Int) < 9223372036854775808) (hlim : out.length + 9 ≤ 140737488355328) :
    Calls Tryd.prog 42 #[.pointer (some ⟨b, 0, none⟩), .iface 2 (.int .i64 n), .int .u8 8, .bool false, .bool false] w (Ses.WP (.tuple #[]) b g big chunk (out ++ (Dg.plainL 8 (n : Int))) w) := by
  have htb := h.lt
  have htg := h.ltg
  have HMk := Ses.mk8
  have HPut := Lib.hid (fun W : World => Ses.lePut8 W.heap.size 8 n Ses.zeros8b (W.alloc (.cells Ses.zeros8b 5)) (by omega) (xb_new W _) rfl)
  have HWS := Lib.hid h
  have pu : IntKind.u64.wrap (n : Int) = (n : Int) := by simp [IntKind.wrap, IntKind.bits, IntKind.signed]; omega
  have pi : IntKind.i64.wrap (n : Int) = (n : Int) := (IntKind.wrap_i64 _).trans (by omega)
  have HLim := Lib.hid hlim
  have t0 := Ses.ta_int64_int64
  have hll : (Dg.plainL 8 (n : Int)).length = 8 := by first | rw [List.length_reverse, Dg.plainL_len] | rw [Dg.plainL_len]
  obtain ⟨l, hl⟩ : ∃ l, l = (Dg.plainL 8 (n : Int)) := ⟨_, rfl⟩
  rw [← hl] at HPut hll ⊢
  have HLl := Lib.hid hll
  have HNb := Lib.hid (show ¬ w.heap.size = b by omega)
  have HNg := Lib.hid (show ¬ w.heap.size = g by omega)
  clear h hl hll hlim hn
  have HW3 : Hid (∀ W : World, (w.alloc (.cells Ses.zeros8b 5)).grownBy W (some w.heap.size) → Ses.WS W b g big chunk out) := Lib.hid (fun W hW => (HWS.out.bl (below_alloc (Below.refl _ _) _)).grown hW (fun e => HNb.out (Option.some.inj e).symm) (fun e => HNg.out (Option.some.inj e).symm))
  have HWr : Hid (∀ W : World, Ses.RowAt W w.heap.size l → Ses.WS W b g big chunk out → Calls Tryd.prog 58 #[.pointer (some ⟨b, 1, none⟩), .slice (some ⟨w.heap.size, 0, none⟩) 8 8] W (Ses.WP (.tuple #[.int .i64 8, .nilIface]) b g big chunk (out ++ l) W)) := Lib.hid (fun W hr h => by
    have hC := C_of (k := .u8) (w := W) (l := l) (g := w.heap.size) (o := 0) (by rw [HLl.out]; omega) (fun i hi => by rw [Nat.zero_add]; exact hr i hi)
    have hw := Ses.ws_write b g big chunk out l (some ⟨w.heap.size, 0, none⟩) 8 W h hC (fun a e => by injection e with e; subst e; exact HNb.out) (by rw [HLl.out]; have := HLim.out; omega)
    rw [HLl.out] at hw
    exact hw)
  go_enter Tryd.func42, Tryd.ntmps42
  go_wp2_with (first | (go_at_call 66; (with_reducible refine (HPut.out _).mono ?_); rintro e w2 ⟨rfl, hrow, hgr⟩; have HRow := Lib.hid hrow; have HGr := Lib.hid hgr; clear hrow hgr) | (go_at_call 58; (with_reducible refine (HWr.out _ HRow.out ?hws).mono ?_); (case hws => exact HW3.out _ HGr.out); rintro e w5 ⟨rfl, g5, hst⟩; have HSu := Lib.hid hst; clear hst))
  go_end0
  exact ⟨rfl, g5, HSu.out.prior (Ses.below_put HGr.out) htg⟩
end Go.Proofs.YtdnahdddkagfhaaDoor.X
/- PutClr of a session: a CLR of any length, in parts. -/
namespace Go.Proofs.YtdnahdddkagfhaaDoor.X
open Go.RowKit Go.Proofs.YtdnahdddkagfhaaDoorW.PrintWords Go.Proofs.YtdnahdddkagfhaaDoorW.PrintMore
attribute [local go_sem] setCell_drewN alloc_drewN
set_option linter.unusedVariables false
set_option linter.unusedSimpArgs false
namespace Dg
/-- A part's number. -/
def headB (big : Bool) (n : Nat) : List Int := if big then packed n else [(n : Int)]
/-- The parts of a CLR. -/
def chunksF (big : Bool) (c : Nat) : Nat → List Int → List Int
  | 0, _ => []
  | k + 1, l => if l = [] then [] else headB big (l.take c).length ++ l.take c ++ chunksF big c k (l.drop c)
/-- A CLR. -/
def clrB (big : Bool) (c : Nat) (l : List Int) : List Int := if l.length ≤ 252 then (l.length : Int) :: l else 254 :: (chunksF big c l.length l ++ [0])
theorem chunksF_nil (big : Bool) (c k : Nat) : chunksF big c k [] = [] := by
  cases k with
  | zero => rfl
  | succ k => rw [chunksF, if_pos rfl]
theorem headB_len (big : Bool) (n : Nat) : (headB big n).length ≤ 9 := by
  unfold headB
  split
  · rw [packed, List.length_cons, List.length_reverse]
    have := dg_len (n : Int)
    omega
  · simp
theorem chunksF_len (big : Bool) (c : Nat) (hc : 1 ≤ c) : ∀ (k : Nat) (l : List Int), (chunksF big c k l).length ≤ 10 * l.length
  | 0, l => by simp [chunksF]
  | k + 1, l => by
    rw [chunksF]
    split
    · simp
    · rename_i h
      have ih := chunksF_len big c hc k (l.drop c)
      have h9 := headB_len big (l.take c).length
      have hl : 0 < l.length := List.length_pos_iff.2 h
      rw [List.length_append, List.length_append]
      rw [List.length_drop] at ih
      rw [List.length_take] at *
      omega
theorem clrB_len (big : Bool) (c : Nat) (hc : 1 ≤ c) (l : List Int) : (clrB big c l).length ≤ 10 * l.length + 2 := by
  unfold clrB
  split
  · simp; omega
  · have := chunksF_len big c hc l.length l
    simp; omega
theorem chunksF_step (big : Bool) (c k s : Nat) (acc data : List Int) (tot : List Int) (hs : s < data.length) (hc : 1 ≤ c) (h : acc ++ chunksF big c k (data.drop s) = tot) (hk : data.length - s ≤ k) :
    ∃ k', (acc ++ headB big ((data.drop s).take c).length ++ (data.drop s).take c) ++ chunksF big c k' (data.drop (s + c)) = tot ∧ data.length - (s + c) ≤ k' := by
  match k, hk with
  | 0, hk => omega
  | k + 1, hk =>
    refine ⟨k, ?_, by omega⟩
    rw [chunksF, if_neg (by intro e; rw [List.drop_eq_nil_iff] at e; omega), List.drop_drop] at h
    rw [← h]
    simp only [List.append_assoc]
end Dg
namespace Ses
theorem C_part {w : World} {gd od : Nat} {data : List Int} (h : Kd.C (Kd.int .u8) w (some ⟨gd, od, none⟩) data.length data) (s m : Nat) (hm : s + m ≤ data.length) : Kd.C (Kd.int .u8) w (some ⟨gd, od + s, none⟩) ((data.drop s).take m).length ((data.drop s).take m) := xC_drop h s m hm
end Ses
set_option maxHeartbeats 4000000 in
set_option maxRecDepth 100000 in
theorem putClr_short (b g : Nat) (big : Bool) (chunk : Int) (out data : List Int) (A : Option Addr) (cp : Nat) (w : World) (h : Ses.WS w b g big chunk out) (hC : Kd.C (Kd.int .u8) w A data.length data) (hab : ∀ a, A = some a → a.block ≠ b ∧ a.block ≠ g) (hd : data.length ≤ 252) (hlim : out.length + 1000 ≤ 140737488355328) :
    Calls Tryd.prog 41 #[.pointer (some ⟨b, 0, none⟩), .slice A data.length cp] w (Ses.WP (.tuple #[]) b g big chunk (out ++ ((data.length : Int) :: data)) w) := by
  have HLim := Lib.hid hlim
  have HWS := Lib.hid h
  have HC := Lib.hid hC
  have HAb := Lib.hid hab
  clear hlim h hC hab
  obtain ⟨k, hk⟩ : ∃ k, k = data.length := ⟨_, rfl⟩
  have HK := Lib.hid hk
  have HBy := Lib.hid (Ses.ws_byte b g big chunk out (k : Int) w HWS.out (by have := HLim.out; omega))
  have HWr := Lib.hid (fun (W : World) (g' : Nat) (h : Ses.WS W b g' big chunk (out ++ [(k : Int)])) (hC : Kd.C (Kd.int .u8) W A data.length data) => Ses.ws_write b g' big chunk (out ++ [(k : Int)]) data A cp W h hC (fun a e => (HAb.out a e).1) (by have := HLim.out; rw [List.length_append, List.length_singleton]; omega))
  rw [← hk] at hd
  rw [← HK.out] at HWr ⊢
  have pw : IntKind.u8.wrap (k : Int) = (k : Int) := by simp [IntKind.wrap, IntKind.bits, IntKind.signed]; omega
  have t0 : decide ((k : Int) > 252) = false := decide_eq_false (by omega)
  clear hk
  by_cases hz : k = 0
  · subst hz
    have hp0 : data = [] := List.eq_nil_of_length_eq_zero HK.out.symm
    rw [hp0]
    rw [Int.ofNat_zero] at HBy ⊢
    clear hp0
    go_enter Tryd.func41, Tryd.ntmps41
    go_wp2_with (go_at_call 59; (with_reducible refine HBy.out.mono ?_); rintro e w4 ⟨rfl, g4, hst⟩; have HSt := Lib.hid hst; clear hst)
    go_end0
    exact ⟨rfl, g4, HSt.out⟩
  · have tz : ((k : Int) == 0) = false := beq_eq_false_iff_ne.2 (by omega)
    go_enter Tryd.func41, Tryd.ntmps41
    go_wp2_with (first | (go_at_call 59; (with_reducible refine HBy.out.mono ?_); rintro e w4 ⟨rfl, g4, hst⟩; have HSt := Lib.hid hst; clear hst) | (go_at_call 58; (with_reducible refine (HWr.out _ g4 ?hws ?hC).mono ?_); (case hws => exact HSt.out.now); (case hC => (rw [HK.out]; exact Ses.C_kp2 HC.out HSt.out.kept (fun a e => (HAb.out a e).1) (fun a e => (HAb.out a e).2))); rintro e w5 ⟨rfl, g5, hst⟩; have HSu := Lib.hid hst; clear hst))
    go_end0
    have hS := HSt.out.trans HSu.out
    rw [List.append_assoc] at hS
    exact ⟨rfl, g5, hS⟩
set_option maxHeartbeats 8000000 in
set_option maxRecDepth 100000 in
theorem putClr_long (b g : Nat) (big : Bool) (c : Nat) (out data : List Int) (A : Option Addr) (cp : Nat) (w : World) (h : Ses.WS w b g big (c : Int) out) (hC : Kd.C (Kd.int .u8) w A data.length data) (hle : data.length ≤ cp) (hcp : cp ≤ 9223372036854775807) (hab : ∀ a, A = some a → a.block ≠ b ∧ a.block ≠ g) (hd : 252 < data.length) (hd2 : data.length ≤ 100000) (hc1 : 1 ≤ c) (hc2 : c ≤ 252) (hlim : out.length + 2000000 ≤ 140737488355328) :
    Calls Tryd.prog 41 #[.pointer (some ⟨b, 0, none⟩), .slice A data.length cp] w (Ses.WP (.tuple #[]) b g big (c : Int) (out ++ (254 :: (Dg.chunksF big c data.length data ++ [0]))) w) := by
  obtain ⟨gd, od, rfl, -, -⟩ := C_base hC (by omega)
  have HLim := Lib.hid hlim
  have HWS := Lib.hid h
  have HC := Lib.hid hC
  have HAb := Lib.hid (hab _ rfl)
  clear hlim h hC hab
  obtain ⟨n, hn⟩ : ∃ n, n = data.length := ⟨_, rfl⟩
  obtain ⟨tot, htot⟩ : ∃ tot, tot = Dg.chunksF big c data.length data := ⟨_, rfl⟩
  have htl : tot.length ≤ 10 * n := by rw [htot, hn]; exact Dg.chunksF_len big c hc1 _ _
  have HTot := Lib.hid htot
  rw [← htot]
  have HN := Lib.hid hn
  rw [← hn] at hd hd2 hle ⊢
  have HBy := Lib.hid (fun (W : World) (g' : Nat) (o : List Int) (x : Int) (h : Ses.WS W b g' big (c : Int) o) (hz : o.length ≤ out.length + 1500000) => Ses.ws_byte b g' big (c : Int) o x W h (by have := HLim.out; omega))
  have HWr : Hid (∀ (W : World) (g' : Nat) (o : List Int) (s m cc : Nat), Ses.WS W b g' big (c : Int) o → o.length ≤ out.length + 1500000 → s + m ≤ n → Kd.C (Kd.int .u8) W (some ⟨gd, od, none⟩) data.length data → Calls Tryd.prog 58 #[.pointer (some ⟨b, 1, none⟩), .slice (some ⟨gd, od + s, none⟩) m cc] W (Ses.WP (.tuple #[.int .i64 m, .nilIface]) b g' big (c : Int) (o ++ (data.drop s).take m) W)) := Lib.hid (fun W g' o s m cc h hz hm hC => by
    have hl : ((data.drop s).take m).length = m := by have := HN.out; rw [List.length_take, List.length_drop]; omega
    have hw := Ses.ws_write b g' big (c : Int) o ((data.drop s).take m) (some ⟨gd, od + s, none⟩) cc W h (Ses.C_part hC s m (by rw [← HN.out]; exact hm)) (fun a e => by injection e with e; subst e; exact HAb.out.1) (by have := HLim.out; rw [hl]; omega)
    rw [hl] at hw
    exact hw)
  have HPi : Hid (∀ (W : World) (g' : Nat) (o : List Int) (m : Nat), Ses.WS W b g' big (c : Int) o → o.length ≤ out.length + 1500000 → m ≤ 255 → Calls Tryd.prog 42 #[.pointer (some ⟨b, 0, none⟩), .iface 3 (.int .i64 m), .int .u8 4, .bool true, .bool true] W (Ses.WP (.tuple #[]) b g' big (c : Int) (o ++ Dg.packed m) W)) := Lib.hid (fun W g' o m h hz hm => putInt_packed_int b g' big (c : Int) o m 4 true W h (by omega) (by omega) (by omega) (by omega) (by have := HLim.out; omega))
  have HCk : Hid (∀ (W : World) (g' : Nat) (o : List Int), Ses.WStep w W b g g' big (c : Int) o → Kd.C (Kd.int .u8) W (some ⟨gd, od, none⟩) data.length data) := Lib.hid (fun W g' o hS => Ses.C_kp2 HC.out hS.kept (fun a e => by injection e with e; subst e; exact HAb.out.1) (fun a e => by injection e with e; subst e; exact HAb.out.2))
  have t0 : decide ((n : Int) > 252) = true := decide_eq_true (by omega)
  have hcn : (0 : Int) ≤ (c : Int) := by omega
  clear hn htot
  go_enter Tryd.func41, Tryd.ntmps41
  go_wp2_with (go_at_call 59; (with_reducible refine (HBy.out _ g out 254 ?hws ?hz).mono ?_); (case hws => exact HWS.out); (case hz => omega); rintro e w4 ⟨rfl, g4, hst⟩; have HSt := Lib.hid hst; clear hst)
  go_loopw [5] (fun v5 wr => ∃ (s g' k : Nat) (acc : List Int), v5 = .int .i64 s ∧ s ≤ n + c ∧ Hid (Ses.WStep w wr b g g' big (c : Int) (out ++ (254 :: acc))) ∧ Hid (acc ++ Dg.chunksF big c k (data.drop s) = tot ∧ data.length - s ≤ k)) (fun v5 _ => n - (intOf v5).toNat)
  case atStart =>
    refine ⟨0, g4, data.length, [], rfl, by omega, HSt, Lib.hid ⟨?_, by omega⟩⟩
    rw [List.drop_zero, List.nil_append]
    exact HTot.out.symm
  case round =>
    obtain ⟨s, g', k, acc, rfl, hsn, HS, HA⟩ := hrel
    by_cases hlt : s < n
    · have t1 : decide ((s : Int) < (n : Int)) = true := decide_eq_true (by omega)
      have c6 := HS.out.now.c6
      have c5 := HS.out.now.c5
      have hal : acc.length ≤ 10 * n := by
        have h := congrArg List.length HA.out.1
        rw [List.length_append] at h
        omega
      obtain ⟨k', hk1, hk2⟩ := Dg.chunksF_step big c k s acc data tot (by have := HN.out; omega) hc1 HA.out.1 HA.out.2
      have HK1 := Lib.hid hk1
      have HK2 := Lib.hid hk2
      clear hk1 hk2
      cases big
      all_goals by_cases hend : s + c > n
      · have t2 : decide ((s : Int) + (c : Int) > (n : Int)) = true := decide_eq_true (by omega)
        have tb : IntKind.u8.wrap (((n - s) : Nat) : Int) = (((n - s) : Nat) : Int) := by simp [IntKind.wrap, IntKind.bits, IntKind.signed]; omega
        go_wp2_with (first | (go_at_call 59; (with_reducible refine (HBy.out _ g' (out ++ 254 :: acc) _ ?hws ?hz).mono ?_); (case hws => exact HS.out.now); (case hz => rw [List.length_append, List.length_cons]; omega); rintro e w5 ⟨rfl, g5, hst⟩; have HSt5 := Lib.hid (HS.out.trans hst); clear hst) | (go_at_call 58; (with_reducible refine (HWr.out _ g5 (out ++ 254 :: acc ++ [(((n - s) : Nat) : Int)]) s (n - s) (cp - s) ?hws ?hz ?hm ?hC).mono ?_); (case hws => exact HSt5.out.now); (case hz => rw [List.length_append, List.length_append, List.length_cons, List.length_singleton]; omega); (case hm => omega); (case hC => exact HCk.out _ _ _ HSt5.out); rintro e w6 ⟨rfl, g6, hst⟩; have HSt6 := Lib.hid (HSt5.out.trans hst); clear hst; have c6b := HSt6.out.now.c6; clear c6))
        go_roundw
        case measure => simp [intOf]; omega
        case rel =>
          refine ⟨s + c, g6, k', acc ++ Dg.headB false ((data.drop s).take c).length ++ (data.drop s).take c, by go_num, by omega, ?_, Lib.hid ⟨HK1.out, HK2.out⟩⟩
          have hR : (data.drop s).take c = (data.drop s).take (n - s) := by rw [List.take_of_length_le (by have := HN.out; rw [List.length_drop]; omega), List.take_of_length_le (by have := HN.out; rw [List.length_drop]; omega)]
          have hl : ((data.drop s).take c).length = (n - s) := by have := HN.out; rw [List.length_take, List.length_drop]; omega
          rw [hl, hR]
          have hS := HSt6.out
          simp only [List.append_assoc, List.cons_append] at hS ⊢
          exact Lib.hid hS
      · have t2 : decide ((s : Int) + (c : Int) > (n : Int)) = false := decide_eq_false (by omega)
        have tb : IntKind.u8.wrap ((c : Nat) : Int) = ((c : Nat) : Int) := by simp [IntKind.wrap, IntKind.bits, IntKind.signed]; omega
        go_wp2_with (first | (go_at_call 59; (with_reducible refine (HBy.out _ g' (out ++ 254 :: acc) _ ?hws ?hz).mono ?_); (case hws => exact HS.out.now); (case hz => rw [List.length_append, List.length_cons]; omega); rintro e w5 ⟨rfl, g5, hst⟩; have HSt5 := Lib.hid (HS.out.trans hst); clear hst) | (go_at_call 58; (with_reducible refine (HWr.out _ g5 (out ++ 254 :: acc ++ [((c : Nat) : Int)]) s c (cp - s) ?hws ?hz ?hm ?hC).mono ?_); (case hws => exact HSt5.out.now); (case hz => rw [List.length_append, List.length_append, List.length_cons, List.length_singleton]; omega); (case hm => omega); (case hC => exact HCk.out _ _ _ HSt5.out); rintro e w6 ⟨rfl, g6, hst⟩; have HSt6 := Lib.hid (HSt5.out.trans hst); clear hst; have c6b := HSt6.out.now.c6; clear c6))
        go_roundw
        case measure => simp [intOf]; omega
        case rel =>
          refine ⟨s + c, g6, k', acc ++ Dg.headB false ((data.drop s).take c).length ++ (data.drop s).take c, by go_num, by omega, ?_, Lib.hid ⟨HK1.out, HK2.out⟩⟩
          have hR : (data.drop s).take c = (data.drop s).take c := rfl
          have hl : ((data.drop s).take c).length = c := by have := HN.out; rw [List.length_take, List.length_drop]; omega
          rw [hl, hR]
          have hS := HSt6.out
          simp only [List.append_assoc, List.cons_append] at hS ⊢
          exact Lib.hid hS
      · have t2 : decide ((s : Int) + (c : Int) > (n : Int)) = true := decide_eq_true (by omega)
        have tb : IntKind.u8.wrap (((n - s) : Nat) : Int) = (((n - s) : Nat) : Int) := by simp [IntKind.wrap, IntKind.bits, IntKind.signed]; omega
        go_wp2_with (first | (go_at_call 42; (with_reducible refine (HPi.out _ g' (out ++ 254 :: acc) (n - s) ?hws ?hz ?hm).mono ?_); (case hws => exact HS.out.now); (case hz => rw [List.length_append, List.length_cons]; omega); (case hm => omega); rintro e w5 ⟨rfl, g5, hst⟩; have HSt5 := Lib.hid (HS.out.trans hst); clear hst) | (go_at_call 58; (with_reducible refine (HWr.out _ g5 (out ++ 254 :: acc ++ Dg.packed (((n - s) : Nat) : Int)) s (n - s) (cp - s) ?hws ?hz ?hm ?hC).mono ?_); (case hws => exact HSt5.out.now); (case hz => rw [List.length_append, List.length_append, List.length_cons]; have h9 := Dg.headB_len true (n - s); (have e9 : Dg.headB true (n - s) = Dg.packed (((n - s) : Nat) : Int) := rfl); rw [e9] at h9; omega); (case hm => omega); (case hC => exact HCk.out _ _ _ HSt5.out); rintro e w6 ⟨rfl, g6, hst⟩; have HSt6 := Lib.hid (HSt5.out.trans hst); clear hst; have c6b := HSt6.out.now.c6; clear c6))
        go_roundw
        case measure => simp [intOf]; omega
        case rel =>
          refine ⟨s + c, g6, k', acc ++ Dg.headB true ((data.drop s).take c).length ++ (data.drop s).take c, by go_num, by omega, ?_, Lib.hid ⟨HK1.out, HK2.out⟩⟩
          have hR : (data.drop s).take c = (data.drop s).take (n - s) := by rw [List.take_of_length_le (by have := HN.out; rw [List.length_drop]; omega), List.take_of_length_le (by have := HN.out; rw [List.length_drop]; omega)]
          have hl : ((data.drop s).take c).length = (n - s) := by have := HN.out; rw [List.length_take, List.length_drop]; omega
          rw [hl, hR]
          have hS := HSt6.out
          simp only [List.append_assoc, List.cons_append] at hS ⊢
          exact Lib.hid hS
      · have t2 : decide ((s : Int) + (c : Int) > (n : Int)) = false := decide_eq_false (by omega)
        have tb : IntKind.u8.wrap ((c : Nat) : Int) = ((c : Nat) : Int) := by simp [IntKind.wrap, IntKind.bits, IntKind.signed]; omega
        go_wp2_with (first | (go_at_call 42; (with_reducible refine (HPi.out _ g' (out ++ 254 :: acc) c ?hws ?hz ?hm).mono ?_); (case hws => exact HS.out.now); (case hz => rw [List.length_append, List.length_cons]; omega); (case hm => omega); rintro e w5 ⟨rfl, g5, hst⟩; have HSt5 := Lib.hid (HS.out.trans hst); clear hst) | (go_at_call 58; (with_reducible refine (HWr.out _ g5 (out ++ 254 :: acc ++ Dg.packed ((c : Nat) : Int)) s c (cp - s) ?hws ?hz ?hm ?hC).mono ?_); (case hws => exact HSt5.out.now); (case hz => rw [List.length_append, List.length_append, List.length_cons]; have h9 := Dg.headB_len true c; (have e9 : Dg.headB true c = Dg.packed ((c : Nat) : Int) := rfl); rw [e9] at h9; omega); (case hm => omega); (case hC => exact HCk.out _ _ _ HSt5.out); rintro e w6 ⟨rfl, g6, hst⟩; have HSt6 := Lib.hid (HSt5.out.trans hst); clear hst; have c6b := HSt6.out.now.c6; clear c6))
        go_roundw
        case measure => simp [intOf]; omega
        case rel =>
          refine ⟨s + c, g6, k', acc ++ Dg.headB true ((data.drop s).take c).length ++ (data.drop s).take c, by go_num, by omega, ?_, Lib.hid ⟨HK1.out, HK2.out⟩⟩
          have hR : (data.drop s).take c = (data.drop s).take c := rfl
          have hl : ((data.drop s).take c).length = c := by have := HN.out; rw [List.length_take, List.length_drop]; omega
          rw [hl, hR]
          have hS := HSt6.out
          simp only [List.append_assoc, List.cons_append] at hS ⊢
          exact Lib.hid hS
    · have t1 : decide ((s : Int) < (n : Int)) = false := decide_eq_false (by omega)
      have hacc : acc = tot := by
        have := HA.out.1
        rw [List.drop_eq_nil_of_le (by have := HN.out; omega), Dg.chunksF_nil, List.append_nil] at this
        exact this
      subst hacc
      go_wp2_with (go_at_call 59; (with_reducible refine (HBy.out _ g' (out ++ 254 :: acc) 0 ?hws ?hz).mono ?_); (case hws => exact HS.out.now); (case hz => rw [List.length_append, List.length_cons]; omega); rintro e w5 ⟨rfl, g5, hst⟩; have HSu := Lib.hid hst; clear hst)
      go_end0
      have hS := HS.out.trans HSu.out
      rw [List.append_assoc, List.cons_append] at hS
      exact ⟨rfl, g5, hS⟩
end Go.Proofs.YtdnahdddkagfhaaDoor.X
/- A session's other writers: PutBytes, PutClr as a whole, PutKeyVal, WriteFixedClr; Bytes, Output, bytes.Clone of whatever is read. -/
namespace Go.Proofs.YtdnahdddkagfhaaDoor.X
open Go.RowKit Go.Proofs.YtdnahdddkagfhaaDoorW.PrintWords Go.Proofs.YtdnahdddkagfhaaDoorW.PrintMore
attribute [local go_sem] setCell_drewN alloc_drewN
set_option linter.unusedVariables false
set_option linter.unusedSimpArgs false
/-- bytes.Clone of a slice that is read. -/
theorem clone_any (A : Option Addr) (c : Nat) (l : List Int) (w : World) (hC : Kd.C (Kd.int .u8) w A l.length l) (hbig : l.length ≤ 140737488355328) :
    Calls Tryd.prog 17 #[.slice A l.length c] w fun e w' => ∃ v, e = .returned v ∧ Kd.R (Kd.int .u8) 5 w' w.heap.size (fun _ => True) v l ∧ Below w.heap.size w w' := by
  cases A with
  | none =>
    have hl : l = [] := by
      by_cases h : 0 < l.length
      · obtain ⟨g, o, e, _⟩ := C_base hC h
        cases e
      · exact List.eq_nil_of_length_eq_zero (by omega)
    subst hl
    refine (Tryd.bytes_Clone_nil 0 c w).mono ?_
    rintro e w' ⟨rfl, rfl⟩
    exact ⟨_, rfl, Kd.R_nil _ _ _ _ _, Below.refl _ _⟩
  | some a =>
    refine (Tryd.bytes_Clone_at a l.length c l w rfl hbig (fun i hi => ?_)).mono ?_
    · obtain ⟨g, o, e, _, hc⟩ := C_base hC (by omega)
      injection e with e
      subst e
      rw [Lib.addr_add]
      exact hc i hi
    · rintro e w' ⟨v, rfl, hown, -, hb⟩
      exact ⟨v, rfl, Kd.R_of_own hown (fun _ _ => trivial), hb⟩
namespace Ses
/-- What is known of a clone's value. -/
theorem R_slots {w : World} {base : Nat} {ok : Nat → Prop} {v : Value} {l : List Int} {e : Nat} (h : Kd.R (Kd.int .u8) e w base ok v l) : ∃ A c, v = .slice A l.length c ∧ l.length ≤ c ∧ Kd.C (Kd.int .u8) w A l.length l ∧ (∀ a, A = some a → base ≤ a.block ∧ a.block < w.heap.size) ∧ c ≤ 9223372036854775807 := by
  obtain ⟨inner, ho⟩ := Kd.R_own h
  obtain ⟨A, c, rfl, hle, hC⟩ := Kd.R_reads h
  refine ⟨A, c, rfl, hle, hC, fun a ha => ?_, ?_⟩
  · subst ha
    exact ⟨Kd.R_base h a.block rfl, Kd.R_lt h a.block rfl⟩
  · rcases ho.2 with ⟨e, _⟩ | ⟨g, cap, cur, e, _, _, r⟩
    · injection e with _ _ e
      omega
    · injection e with _ _ e
      have := r.2.1
      unfold maxLen at this
      omega
end Ses
/-- PutBytes of a session. -/
theorem putBytes_any (b g : Nat) (big : Bool) (chunk : Int) (out p : List Int) (A : Option Addr) (cp : Nat) (w : World) (h : Ses.WS w b g big chunk out) (hC : Kd.C (Kd.int .u8) w A p.length p) (hab : ∀ a, A = some a → a.block ≠ b) (hlim : out.length + p.length ≤ 140737488355328) :
    Calls Tryd.prog 40 #[.pointer (some ⟨b, 0, none⟩), .slice A p.length cp] w (Ses.WP (.tuple #[]) b g big chunk (out ++ p) w) := by
  have HW := Lib.hid (Ses.ws_write b g big chunk out p A cp w h hC hab hlim)
  clear h hC hab
  go_enter Tryd.func40, Tryd.ntmps40
  go_wp2_with (go_at_call 58; (with_reducible refine HW.out.mono ?_); rintro e w4 ⟨rfl, g4, hst⟩; have HSt := Lib.hid hst; clear hst)
  go_end0
  exact ⟨rfl, g4, HSt.out⟩
theorem putClr_any (b g : Nat) (big : Bool) (c : Nat) (out data : List Int) (A : Option Addr) (cp : Nat) (w : World) (h : Ses.WS w b g big (c : Int) out) (hC : Kd.C (Kd.int .u8) w A data.length data) (hle : data.length ≤ cp) (hcp : cp ≤ 9223372036854775807) (hab : ∀ a, A = some a → a.block ≠ b ∧ a.block ≠ g) (hd2 : data.length ≤ 100000) (hc1 : 1 ≤ c) (hc2 : c ≤ 252) (hlim : out.length + 2000000 ≤ 140737488355328) :
    Calls Tryd.prog 41 #[.pointer (some ⟨b, 0, none⟩), .slice A data.length cp] w (Ses.WP (.tuple #[]) b g big (c : Int) (out ++ Dg.clrB big c data) w) := by
  unfold Dg.clrB
  split
  · exact putClr_short b g big (c : Int) out data A cp w h hC hab (by assumption) (by omega)
  · exact putClr_long b g big c out data A cp w h hC hle hcp hab (by omega) hd2 hc1 hc2 hlim
namespace Dg
/-- A DLC: its number, compressed, and a CLR; a 0 for nothing. -/
def dlcB (big : Bool) (c : Nat) (l : List Int) : List Int := if l = [] then [0] else packed (l.length : Int) ++ clrB big c l
theorem packed_len (x : Int) : (packed x).length ≤ 9 := by
  rw [packed, List.length_cons, List.length_reverse]
  have := dg_len x
  omega
theorem dlcB_len (big : Bool) (c : Nat) (hc : 1 ≤ c) (l : List Int) : (dlcB big c l).length ≤ 10 * l.length + 12 := by
  unfold dlcB
  split
  · simp
  · have h1 := packed_len (l.length : Int)
    have h2 := clrB_len big c hc l
    rw [List.length_append]
    omega
/-- Bytes behind their number, or behind 254 and their number in four bytes. -/
def fixedB (l : List Int) : List Int := if l.length ≤ 252 then (l.length : Int) :: l else 254 :: ((plainL 4 (l.length : Int)).reverse ++ l)
theorem fixedB_len (l : List Int) : (fixedB l).length ≤ l.length + 5 := by
  unfold fixedB
  split
  · simp
  · simp [plainL_len]; omega
end Dg
set_option maxHeartbeats 8000000 in
set_option maxRecDepth 100000 in
/-- PutKeyVal of a session. -/
theorem putKeyVal_any (b g : Nat) (big : Bool) (c : Nat) (out k v : List Int) (fl : Nat) (A B : Option Addr) (cA cB : Nat) (w : World) (h : Ses.WS w b g big (c : Int) out) (hA : Kd.C (Kd.int .u8) w A k.length k) (hB : Kd.C (Kd.int .u8) w B v.length v) (hlA : k.length ≤ cA) (hlB : v.length ≤ cB) (hcA : cA ≤ 9223372036854775807) (hcB : cB ≤ 9223372036854775807) (habA : ∀ a, A = some a → a.block ≠ b ∧ a.block ≠ g ∧ a.block < w.heap.size) (habB : ∀ a, B = some a → a.block ≠ b ∧ a.block ≠ g ∧ a.block < w.heap.size) (hkA : k.length ≤ 100000) (hkB : v.length ≤ 100000) (hc1 : 1 ≤ c) (hc2 : c ≤ 252) (hfl : fl ≤ 255) (hlim : out.length + 10000000 ≤ 140737488355328) :
    Calls Tryd.prog 44 #[.pointer (some ⟨b, 0, none⟩), .slice A k.length cA, .slice B v.length cB, .int .u8 fl] w (Ses.WP (.tuple #[]) b g big (c : Int) (out ++ Dg.dlcB big c k ++ Dg.dlcB big c v ++ Dg.packed (fl : Int)) w) := by
  have HLim := Lib.hid hlim
  have HWS := Lib.hid h
  have HA := Lib.hid hA
  have HB := Lib.hid hB
  have HAa := Lib.hid habA
  have HAb := Lib.hid habB
  have HcA := Lib.hid hlA
  have HcB := Lib.hid hlB
  have HdA := Lib.hid (Dg.dlcB_len big c hc1 k)
  have HdB := Lib.hid (Dg.dlcB_len big c hc1 v)
  have HBy := Lib.hid (fun (W : World) (g' : Nat) (o : List Int) (x : Int) (h : Ses.WS W b g' big (c : Int) o) (hz : o.length ≤ out.length + 5000000) => Ses.ws_byte b g' big (c : Int) o x W h (by have := HLim.out; omega))
  have HPu : Hid (∀ (W : World) (g' : Nat) (o : List Int) (m : Nat), Ses.WS W b g' big (c : Int) o → o.length ≤ out.length + 5000000 → m ≤ 100000 → Calls Tryd.prog 43 #[.pointer (some ⟨b, 0, none⟩), .iface 3 (.int .i64 m), .int .u8 4, .bool true, .bool true] W (Ses.WP (.tuple #[]) b g' big (c : Int) (o ++ Dg.packed m) W)) := Lib.hid (fun W g' o m h hz hm => putUint_packed_int b g' big (c : Int) o m 4 true W h (by omega) (by omega) (by omega) (by omega) (by have := HLim.out; omega))
  have HPi : Hid (∀ (W : World) (g' : Nat) (o : List Int), Ses.WS W b g' big (c : Int) o → o.length ≤ out.length + 5000000 → Calls Tryd.prog 42 #[.pointer (some ⟨b, 0, none⟩), .iface 5 (.int .u8 fl), .int .u8 4, .bool true, .bool true] W (Ses.WP (.tuple #[]) b g' big (c : Int) (o ++ Dg.packed fl) W)) := Lib.hid (fun W g' o h hz => putInt_packed_u8 b g' big (c : Int) o fl 4 true W h (by omega) (by omega) (by omega) (by omega) (by have := HLim.out; omega))
  have HClA := Lib.hid (fun (W : World) (g' : Nat) (o : List Int) (h : Ses.WS W b g' big (c : Int) o) (hz : o.length ≤ out.length + 5000000) (hC : Kd.C (Kd.int .u8) W A k.length k) (hg : ∀ a, A = some a → a.block ≠ g') => putClr_any b g' big c o k A cA W h hC hlA hcA (fun a e => ⟨(HAa.out a e).1, hg a e⟩) hkA hc1 hc2 (by have := HLim.out; omega))
  have HClB := Lib.hid (fun (W : World) (g' : Nat) (o : List Int) (h : Ses.WS W b g' big (c : Int) o) (hz : o.length ≤ out.length + 5000000) (hC : Kd.C (Kd.int .u8) W B v.length v) (hg : ∀ a, B = some a → a.block ≠ g') => putClr_any b g' big c o v B cB W h hC hlB hcB (fun a e => ⟨(HAb.out a e).1, hg a e⟩) hkB hc1 hc2 (by have := HLim.out; omega))
  have HCk : Hid (∀ (W : World) (g' : Nat) (o : List Int), Ses.WStep w W b g g' big (c : Int) o → (Kd.C (Kd.int .u8) W A k.length k ∧ ∀ a, A = some a → a.block ≠ g') ∧ (Kd.C (Kd.int .u8) W B v.length v ∧ ∀ a, B = some a → a.block ≠ g')) := Lib.hid (fun W g' o hS => by
    have far : ∀ (C : Option Addr), (∀ a, C = some a → a.block ≠ b ∧ a.block ≠ g ∧ a.block < w.heap.size) → ∀ a, C = some a → a.block ≠ g' := by
      intro C hab a ha e
      have h1 := hab a ha
      rcases hS.row with h2 | h2 <;> omega
    exact ⟨⟨Ses.C_kp2 HA.out hS.kept (fun a e => (HAa.out a e).1) (fun a e => (HAa.out a e).2.1), far A HAa.out⟩, ⟨Ses.C_kp2 HB.out hS.kept (fun a e => (HAb.out a e).1) (fun a e => (HAb.out a e).2.1), far B HAb.out⟩⟩)
  have HCur : Hid (Ses.WStep w w b g g big (c : Int) out) := Lib.hid (Ses.WStep.of h)
  have HP1 := Lib.hid (Dg.packed_len (k.length : Int))
  have HP2 := Lib.hid (Dg.packed_len (v.length : Int))
  have HL1 := Lib.hid (Dg.clrB_len big c hc1 k)
  have HL2 := Lib.hid (Dg.clrB_len big c hc1 v)
  clear h hA hB habA habB hlim hlA hlB hcA hcB hc1 hc2
  obtain ⟨nk, hnk⟩ : ∃ nk, nk = k.length := ⟨_, rfl⟩
  obtain ⟨nv, hnv⟩ : ∃ nv, nv = v.length := ⟨_, rfl⟩
  have HNk := Lib.hid hnk
  have HNv := Lib.hid hnv
  have ek : Dg.dlcB big c k = if nk = 0 then [0] else Dg.packed (nk : Int) ++ Dg.clrB big c k := by
    unfold Dg.dlcB
    rw [hnk]
    simp only [List.length_eq_zero_iff]
  have ev : Dg.dlcB big c v = if nv = 0 then [0] else Dg.packed (nv : Int) ++ Dg.clrB big c v := by
    unfold Dg.dlcB
    rw [hnv]
    simp only [List.length_eq_zero_iff]
  rw [ek, ev]
  rw [← hnk] at HClA HP1 HL1 hkA ⊢
  rw [← hnv] at HClB HP2 HL2 hkB ⊢
  clear hnk hnv ek ev
  by_cases hk0 : nk = 0
  all_goals by_cases hv0 : nv = 0
  · rw [if_pos hk0, if_pos hv0]
    have tk : ((nk : Int) == 0) = true := beq_iff_eq.2 (by omega)
    have tv : ((nv : Int) == 0) = true := beq_iff_eq.2 (by omega)
    go_enter Tryd.func44, Tryd.ntmps44
    go_wp2_with (first | (go_at_call 59; (with_reducible refine (HBy.out _ _ _ _ HCur.out.now ?hz).mono ?_); (case hz => (have p1 := HP1.out; have p2 := HP2.out; have l1 := HL1.out; have l2 := HL2.out; (try simp only [List.length_append, List.length_singleton]); omega)); rintro e w5 ⟨rfl, g5, hst⟩; have HTmp := Lib.hid (HCur.out.trans hst); clear hst HCur; have HCur := HTmp; clear HTmp) | (go_at_call 43; (with_reducible refine (HPu.out _ _ _ _ HCur.out.now ?hz ?hm).mono ?_); (case hz => (have p1 := HP1.out; have p2 := HP2.out; have l1 := HL1.out; have l2 := HL2.out; (try simp only [List.length_append, List.length_singleton]); omega)); (case hm => omega); rintro e w5 ⟨rfl, g5, hst⟩; have HTmp := Lib.hid (HCur.out.trans hst); clear hst HCur; have HCur := HTmp; clear HTmp) | (go_at_call 42; (with_reducible refine (HPi.out _ _ _ HCur.out.now ?hz).mono ?_); (case hz => (have p1 := HP1.out; have p2 := HP2.out; have l1 := HL1.out; have l2 := HL2.out; (try simp only [List.length_append, List.length_singleton]); omega)); rintro e w5 ⟨rfl, g5, hst⟩; have HTmp := Lib.hid (HCur.out.trans hst); clear hst HCur; have HCur := HTmp; clear HTmp) | (go_at_call 41; (with_reducible refine (HClA.out _ _ _ HCur.out.now ?hz ?hC ?hg).mono ?_); (case hz => (have p1 := HP1.out; have p2 := HP2.out; have l1 := HL1.out; have l2 := HL2.out; (try simp only [List.length_append, List.length_singleton]); omega)); (case hC => (first | (rw [HNk.out]; exact (HCk.out _ _ _ HCur.out).1.1) | (rw [HNv.out]; exact (HCk.out _ _ _ HCur.out).1.1))); (case hg => exact (HCk.out _ _ _ HCur.out).1.2); rintro e w5 ⟨rfl, g5, hst⟩; have HTmp := Lib.hid (HCur.out.trans hst); clear hst HCur; have HCur := HTmp; clear HTmp) | (go_at_call 41; (with_reducible refine (HClB.out _ _ _ HCur.out.now ?hz ?hC ?hg).mono ?_); (case hz => (have p1 := HP1.out; have p2 := HP2.out; have l1 := HL1.out; have l2 := HL2.out; (try simp only [List.length_append, List.length_singleton]); omega)); (case hC => (first | (rw [HNk.out]; exact (HCk.out _ _ _ HCur.out).2.1) | (rw [HNv.out]; exact (HCk.out _ _ _ HCur.out).2.1))); (case hg => exact (HCk.out _ _ _ HCur.out).2.2); rintro e w5 ⟨rfl, g5, hst⟩; have HTmp := Lib.hid (HCur.out.trans hst); clear hst HCur; have HCur := HTmp; clear HTmp))
    go_end0
    have hS := HCur.out
    simp only [List.append_assoc] at hS ⊢
    exact ⟨rfl, _, hS⟩
  · rw [if_pos hk0, if_neg hv0]
    have tk : ((nk : Int) == 0) = true := beq_iff_eq.2 (by omega)
    have tv : ((nv : Int) == 0) = false := beq_eq_false_iff_ne.2 (by omega)
    go_enter Tryd.func44, Tryd.ntmps44
    go_wp2_with (first | (go_at_call 59; (with_reducible refine (HBy.out _ _ _ _ HCur.out.now ?hz).mono ?_); (case hz => (have p1 := HP1.out; have p2 := HP2.out; have l1 := HL1.out; have l2 := HL2.out; (try simp only [List.length_append, List.length_singleton]); omega)); rintro e w5 ⟨rfl, g5, hst⟩; have HTmp := Lib.hid (HCur.out.trans hst); clear hst HCur; have HCur := HTmp; clear HTmp) | (go_at_call 43; (with_reducible refine (HPu.out _ _ _ _ HCur.out.now ?hz ?hm).mono ?_); (case hz => (have p1 := HP1.out; have p2 := HP2.out; have l1 := HL1.out; have l2 := HL2.out; (try simp only [List.length_append, List.length_singleton]); omega)); (case hm => omega); rintro e w5 ⟨rfl, g5, hst⟩; have HTmp := Lib.hid (HCur.out.trans hst); clear hst HCur; have HCur := HTmp; clear HTmp) | (go_at_call 42; (with_reducible refine (HPi.out _ _ _ HCur.out.now ?hz).mono ?_); (case hz => (have p1 := HP1.out; have p2 := HP2.out; have l1 := HL1.out; have l2 := HL2.out; (try simp only [List.length_append, List.length_singleton]); omega)); rintro e w5 ⟨rfl, g5, hst⟩; have HTmp := Lib.hid (HCur.out.trans hst); clear hst HCur; have HCur := HTmp; clear HTmp) | (go_at_call 41; (with_reducible refine (HClA.out _ _ _ HCur.out.now ?hz ?hC ?hg).mono ?_); (case hz => (have p1 := HP1.out; have p2 := HP2.out; have l1 := HL1.out; have l2 := HL2.out; (try simp only [List.length_append, List.length_singleton]); omega)); (case hC => (first | (rw [HNk.out]; exact (HCk.out _ _ _ HCur.out).1.1) | (rw [HNv.out]; exact (HCk.out _ _ _ HCur.out).1.1))); (case hg => exact (HCk.out _ _ _ HCur.out).1.2); rintro e w5 ⟨rfl, g5, hst⟩; have HTmp := Lib.hid (HCur.out.trans hst); clear hst HCur; have HCur := HTmp; clear HTmp) | (go_at_call 41; (with_reducible refine (HClB.out _ _ _ HCur.out.now ?hz ?hC ?hg).mono ?_); (case hz => (have p1 := HP1.out; have p2 := HP2.out; have l1 := HL1.out; have l2 := HL2.out; (try simp only [List.length_append, List.length_singleton]); omega)); (case hC => (first | (rw [HNk.out]; exact (HCk.out _ _ _ HCur.out).2.1) | (rw [HNv.out]; exact (HCk.out _ _ _ HCur.out).2.1))); (case hg => exact (HCk.out _ _ _ HCur.out).2.2); rintro e w5 ⟨rfl, g5, hst⟩; have HTmp := Lib.hid (HCur.out.trans hst); clear hst HCur; have HCur := HTmp; clear HTmp))
    go_end0
    have hS := HCur.out
    simp only [List.append_assoc] at hS ⊢
    exact ⟨rfl, _, hS⟩
  · rw [if_neg hk0, if_pos hv0]
    have tk : ((nk : Int) == 0) = false := beq_eq_false_iff_ne.2 (by omega)
    have tv : ((nv : Int) == 0) = true := beq_iff_eq.2 (by omega)
    go_enter Tryd.func44, Tryd.ntmps44
    go_wp2_with (first | (go_at_call 59; (with_reducible refine (HBy.out _ _ _ _ HCur.out.now ?hz).mono ?_); (case hz => (have p1 := HP1.out; have p2 := HP2.out; have l1 := HL1.out; have l2 := HL2.out; (try simp only [List.length_append, List.length_singleton]); omega)); rintro e w5 ⟨rfl, g5, hst⟩; have HTmp := Lib.hid (HCur.out.trans hst); clear hst HCur; have HCur := HTmp; clear HTmp) | (go_at_call 43; (with_reducible refine (HPu.out _ _ _ _ HCur.out.now ?hz ?hm).mono ?_); (case hz => (have p1 := HP1.out; have p2 := HP2.out; have l1 := HL1.out; have l2 := HL2.out; (try simp only [List.length_append, List.length_singleton]); omega)); (case hm => omega); rintro e w5 ⟨rfl, g5, hst⟩; have HTmp := Lib.hid (HCur.out.trans hst); clear hst HCur; have HCur := HTmp; clear HTmp) | (go_at_call 42; (with_reducible refine (HPi.out _ _ _ HCur.out.now ?hz).mono ?_); (case hz => (have p1 := HP1.out; have p2 := HP2.out; have l1 := HL1.out; have l2 := HL2.out; (try simp only [List.length_append, List.length_singleton]); omega)); rintro e w5 ⟨rfl, g5, hst⟩; have HTmp := Lib.hid (HCur.out.trans hst); clear hst HCur; have HCur := HTmp; clear HTmp) | (go_at_call 41; (with_reducible refine (HClA.out _ _ _ HCur.out.now ?hz ?hC ?hg).mono ?_); (case hz => (have p1 := HP1.out; have p2 := HP2.out; have l1 := HL1.out; have l2 := HL2.out; (try simp only [List.length_append, List.length_singleton]); omega)); (case hC => (first | (rw [HNk.out]; exact (HCk.out _ _ _ HCur.out).1.1) | (rw [HNv.out]; exact (HCk.out _ _ _ HCur.out).1.1))); (case hg => exact (HCk.out _ _ _ HCur.out).1.2); rintro e w5 ⟨rfl, g5, hst⟩; have HTmp := Lib.hid (HCur.out.trans hst); clear hst HCur; have HCur := HTmp; clear HTmp) | (go_at_call 41; (with_reducible refine (HClB.out _ _ _ HCur.out.now ?hz ?hC ?hg).mono ?_); (case hz => (have p1 := HP1.out; have p2 := HP2.out; have l1 := HL1.out; have l2 := HL2.out; (try simp only [List.length_append, List.length_singleton]); omega)); (case hC => (first | (rw [HNk.out]; exact (HCk.out _ _ _ HCur.out).2.1) | (rw [HNv.out]; exact (HCk.out _ _ _ HCur.out).2.1))); (case hg => exact (HCk.out _ _ _ HCur.out).2.2); rintro e w5 ⟨rfl, g5, hst⟩; have HTmp := Lib.hid (HCur.out.trans hst); clear hst HCur; have HCur := HTmp; clear HTmp))
    go_end0
    have hS := HCur.out
    simp only [List.append_assoc] at hS ⊢
    exact ⟨rfl, _, hS⟩
  · rw [if_neg hk0, if_neg hv0]
    have tk : ((nk : Int) == 0) = false := beq_eq_false_iff_ne.2 (by omega)
    have tv : ((nv : Int) == 0) = false := beq_eq_false_iff_ne.2 (by omega)
    go_enter Tryd.func44, Tryd.ntmps44
    go_wp2_with (first | (go_at_call 59; (with_reducible refine (HBy.out _ _ _ _ HCur.out.now ?hz).mono ?_); (case hz => (have p1 := HP1.out; have p2 := HP2.out; have l1 := HL1.out; have l2 := HL2.out; (try simp only [List.length_append, List.length_singleton]); omega)); rintro e w5 ⟨rfl, g5, hst⟩; have HTmp := Lib.hid (HCur.out.trans hst); clear hst HCur; have HCur := HTmp; clear HTmp) | (go_at_call 43; (with_reducible refine (HPu.out _ _ _ _ HCur.out.now ?hz ?hm).mono ?_); (case hz => (have p1 := HP1.out; have p2 := HP2.out; have l1 := HL1.out; have l2 := HL2.out; (try simp only [List.length_append, List.length_singleton]); omega)); (case hm => omega); rintro e w5 ⟨rfl, g5, hst⟩; have HTmp := Lib.hid (HCur.out.trans hst); clear hst HCur; have HCur := HTmp; clear HTmp) | (go_at_call 42; (with_reducible refine (HPi.out _ _ _ HCur.out.now ?hz).mono ?_); (case hz => (have p1 := HP1.out; have p2 := HP2.out; have l1 := HL1.out; have l2 := HL2.out; (try simp only [List.length_append, List.length_singleton]); omega)); rintro e w5 ⟨rfl, g5, hst⟩; have HTmp := Lib.hid (HCur.out.trans hst); clear hst HCur; have HCur := HTmp; clear HTmp) | (go_at_call 41; (with_reducible refine (HClA.out _ _ _ HCur.out.now ?hz ?hC ?hg).mono ?_); (case hz => (have p1 := HP1.out; have p2 := HP2.out; have l1 := HL1.out; have l2 := HL2.out; (try simp only [List.length_append, List.length_singleton]); omega)); (case hC => (first | (rw [HNk.out]; exact (HCk.out _ _ _ HCur.out).1.1) | (rw [HNv.out]; exact (HCk.out _ _ _ HCur.out).1.1))); (case hg => exact (HCk.out _ _ _ HCur.out).1.2); rintro e w5 ⟨rfl, g5, hst⟩; have HTmp := Lib.hid (HCur.out.trans hst); clear hst HCur; have HCur := HTmp; clear HTmp) | (go_at_call 41; (with_reducible refine (HClB.out _ _ _ HCur.out.now ?hz ?hC ?hg).mono ?_); (case hz => (have p1 := HP1.out; have p2 := HP2.out; have l1 := HL1.out; have l2 := HL2.out; (try simp only [List.length_append, List.length_singleton]); omega)); (case hC => (first | (rw [HNk.out]; exact (HCk.out _ _ _ HCur.out).2.1) | (rw [HNv.out]; exact (HCk.out _ _ _ HCur.out).2.1))); (case hg => exact (HCk.out _ _ _ HCur.out).2.2); rintro e w5 ⟨rfl, g5, hst⟩; have HTmp := Lib.hid (HCur.out.trans hst); clear hst HCur; have HCur := HTmp; clear HTmp))
    go_end0
    have hS := HCur.out
    simp only [List.append_assoc] at hS ⊢
    exact ⟨rfl, _, hS⟩
set_option maxHeartbeats 4000000 in
set_option maxRecDepth 100000 in
/-- WriteUint of an int in four bytes, the most significant one ahead, to a buffer. -/
theorem writeUint_be4 (b0 b q g : Nat) (T : TypeId) (cs : Array Value) (out : List Int) (n : Nat) (w : World) (h : BufA w b q g T cs out) (hn : (n : Int) < 4294967296) (hlim : out.length + 9 ≤ 140737488355328) :
    Calls Tryd.prog 67 #[.pointer (some ⟨b0, 0, none⟩), .pointer (some ⟨b, q, none⟩), .iface 3 (.int .i64 n), .int .u8 4, .bool true, .bool false] w (BufP (.tuple #[]) b q g T cs (out ++ (Dg.plainL 4 (n : Int)).reverse) w) := by
  have htb := h.lt
  have htg := h.ltg
  have HMk := Ses.mk4
  have HPut := Lib.hid (fun W : World => Ses.bePut4 W.heap.size 4 n Ses.zeros4b (W.alloc (.cells Ses.zeros4b 5)) (by omega) (xb_new W _) rfl)
  have HWS := Lib.hid h
  have pu : IntKind.u64.wrap (n : Int) = (n : Int) := by simp [IntKind.wrap, IntKind.bits, IntKind.signed]; omega
  have pw : IntKind.u32.wrap (n : Int) = (n : Int) := by simp [IntKind.wrap, IntKind.bits, IntKind.signed]; omega
  have HLim := Lib.hid hlim
  have t0 := Ses.ta_int_int64; have t1 := Ses.ta_int_int32; have t2 := Ses.ta_int_int16; have t3 := Ses.ta_int_int8; have t4 := Ses.ta_int_uint64; have t5 := Ses.ta_int_uint32; have t6 := Ses.ta_int_uint16; have t7 := Ses.ta_int_uint8; have t8 := Ses.ta_int_uint; have t9 := Ses.ta_int_int
  have hll : (Dg.plainL 4 (n : Int)).reverse.length = 4 := by rw [List.length_reverse, Dg.plainL_len]
  obtain ⟨l, hl⟩ : ∃ l, l = (Dg.plainL 4 (n : Int)).reverse := ⟨_, rfl⟩
  rw [← hl] at HPut hll ⊢
  have HLl := Lib.hid hll
  have HNb := Lib.hid (show ¬ w.heap.size = b by omega)
  have HNg := Lib.hid (show ¬ w.heap.size = g by omega)
  clear h hl hll hlim hn
  have HW3 : Hid (∀ W : World, (w.alloc (.cells Ses.zeros4b 5)).grownBy W (some w.heap.size) → BufA W b q g T cs out) := Lib.hid (fun W hW => (HWS.out.bl (below_alloc (Below.refl _ _) _)).grown hW (fun e => HNb.out (Option.some.inj e).symm) (fun e => HNg.out (Option.some.inj e).symm))
  have HWr : Hid (∀ W : World, Ses.RowAt W w.heap.size l → BufA W b q g T cs out → Calls Tryd.prog 58 #[.pointer (some ⟨b, q, none⟩), .slice (some ⟨w.heap.size, 0, none⟩) 4 4] W (BufP (.tuple #[.int .i64 4, .nilIface]) b q g T cs (out ++ l) W)) := Lib.hid (fun W hr h => by
    have hC := C_of (k := .u8) (w := W) (l := l) (g := w.heap.size) (o := 0) (by rw [HLl.out]; omega) (fun i hi => by rw [Nat.zero_add]; exact hr i hi)
    have hw := write_any b q g T cs out l (some ⟨w.heap.size, 0, none⟩) 4 W h hC (fun a e => by injection e with e; subst e; exact HNb.out) (by rw [HLl.out]; have := HLim.out; omega)
    rw [HLl.out] at hw
    exact hw)
  go_enter Tryd.func67, Tryd.ntmps67
  go_wp2_with (first | (go_at_call 63; (with_reducible refine (HPut.out _).mono ?_); rintro e w2 ⟨rfl, hrow, hgr⟩; have HRow := Lib.hid hrow; have HGr := Lib.hid hgr; clear hrow hgr) | (go_at_call 58; (with_reducible refine (HWr.out _ HRow.out ?hws).mono ?_); (case hws => exact HW3.out _ HGr.out); rintro e w5 ⟨rfl, g5, cs5, hst⟩; have HSu := Lib.hid hst; clear hst))
  go_end0
  exact ⟨rfl, g5, cs5, HSu.out.from (Ses.below_put HGr.out) htg⟩
set_option maxHeartbeats 4000000 in
set_option maxRecDepth 100000 in
/-- WriteFixedClr to a buffer. -/
theorem fixedClr_any (b0 b q g : Nat) (T : TypeId) (cs : Array Value) (out data : List Int) (A : Option Addr) (cp : Nat) (w : World) (h : BufA w b q g T cs out) (hC : Kd.C (Kd.int .u8) w A data.length data) (hab : ∀ a, A = some a → a.block ≠ b ∧ a.block ≠ g) (hd2 : data.length ≤ 100000) (hlim : out.length + 2000000 ≤ 140737488355328) :
    Calls Tryd.prog 45 #[.pointer (some ⟨b0, 0, none⟩), .pointer (some ⟨b, q, none⟩), .slice A data.length cp] w (BufP (.tuple #[]) b q g T cs (out ++ Dg.fixedB data) w) := by
  have HLim := Lib.hid hlim
  have HC := Lib.hid hC
  have HAb := Lib.hid hab
  have HCur : Hid (BufS w w b q g g T cs cs out) := Lib.hid (BufS.of h)
  obtain ⟨n, hn⟩ : ∃ n, n = data.length := ⟨_, rfl⟩
  have HN := Lib.hid hn
  have HBy := Lib.hid (fun (W : World) (g' : Nat) (cs' : Array Value) (o : List Int) (x : Int) (h : BufA W b q g' T cs' o) (hz : o.length ≤ out.length + 1000) => writeByte_any b q g' T cs' o x W h (by have := HLim.out; omega))
  have HUi : Hid (∀ (W : World) (g' : Nat) (cs' : Array Value) (o : List Int), BufA W b q g' T cs' o → o.length ≤ out.length + 1000 → Calls Tryd.prog 67 #[.pointer (some ⟨b0, 0, none⟩), .pointer (some ⟨b, q, none⟩), .iface 3 (.int .i64 n), .int .u8 4, .bool true, .bool false] W (BufP (.tuple #[]) b q g' T cs' (o ++ (Dg.plainL 4 (n : Int)).reverse) W)) := Lib.hid (fun W g' cs' o h hz => writeUint_be4 b0 b q g' T cs' o n W h (by omega) (by have := HLim.out; omega))
  have HWr := Lib.hid (fun (W : World) (g' : Nat) (cs' : Array Value) (o : List Int) (h : BufA W b q g' T cs' o) (hz : o.length ≤ out.length + 1000) (hC : Kd.C (Kd.int .u8) W A data.length data) => write_any b q g' T cs' o data A cp W h hC (fun a e => (HAb.out a e).1) (by have := HLim.out; omega))
  have HCk : Hid (∀ (W : World) (g' : Nat) (cs' : Array Value) (o : List Int), BufS w W b q g g' T cs cs' o → Kd.C (Kd.int .u8) W A data.length data) := Lib.hid (fun W g' cs' o hS => Ses.C_kp2 HC.out hS.kept (fun a e => (HAb.out a e).1) (fun a e => (HAb.out a e).2))
  have ef : Dg.fixedB data = if n ≤ 252 then (n : Int) :: data else 254 :: ((Dg.plainL 4 (n : Int)).reverse ++ data) := by rw [hn]; rfl
  rw [ef]
  rw [← hn] at HWr hd2 ⊢
  clear h hC hab hlim hn ef
  have hll : (Dg.plainL 4 (n : Int)).reverse.length = 4 := by rw [List.length_reverse, Dg.plainL_len]
  have HLl := Lib.hid hll
  clear hll
  by_cases hs : n ≤ 252
  · rw [if_pos hs]
    have t0 : decide ((n : Int) > 252) = false := decide_eq_false (by omega)
    have pw : IntKind.u8.wrap (n : Int) = (n : Int) := by simp [IntKind.wrap, IntKind.bits, IntKind.signed]; omega
    go_enter Tryd.func45, Tryd.ntmps45
    go_wp2_with (first | (go_at_call 59; (with_reducible refine (HBy.out _ _ _ _ _ HCur.out.now ?hz).mono ?_); (case hz => (have l1 := HLl.out; (try simp only [List.length_append, List.length_singleton]); omega)); rintro e w5 ⟨rfl, g5, cs5, hst⟩; have HTmp := Lib.hid (HCur.out.trans hst); clear hst HCur; have HCur := HTmp; clear HTmp) | (go_at_call 67; (with_reducible refine (HUi.out _ _ _ _ HCur.out.now ?hz).mono ?_); (case hz => (have l1 := HLl.out; (try simp only [List.length_append, List.length_singleton]); omega)); rintro e w5 ⟨rfl, g5, cs5, hst⟩; have HTmp := Lib.hid (HCur.out.trans hst); clear hst HCur; have HCur := HTmp; clear HTmp) | (go_at_call 58; (with_reducible refine (HWr.out _ _ _ _ HCur.out.now ?hz ?hC).mono ?_); (case hz => (have l1 := HLl.out; (try simp only [List.length_append, List.length_singleton]); omega)); (case hC => (rw [HN.out]; exact HCk.out _ _ _ _ HCur.out)); rintro e w5 ⟨rfl, g5, cs5, hst⟩; have HTmp := Lib.hid (HCur.out.trans hst); clear hst HCur; have HCur := HTmp; clear HTmp))
    go_end0
    have hS := HCur.out
    simp only [List.append_assoc, List.cons_append, List.nil_append] at hS ⊢
    exact ⟨rfl, _, _, hS⟩
  · rw [if_neg hs]
    have t0 : decide ((n : Int) > 252) = true := decide_eq_true (by omega)
    go_enter Tryd.func45, Tryd.ntmps45
    go_wp2_with (first | (go_at_call 59; (with_reducible refine (HBy.out _ _ _ _ _ HCur.out.now ?hz).mono ?_); (case hz => (have l1 := HLl.out; (try simp only [List.length_append, List.length_singleton]); omega)); rintro e w5 ⟨rfl, g5, cs5, hst⟩; have HTmp := Lib.hid (HCur.out.trans hst); clear hst HCur; have HCur := HTmp; clear HTmp) | (go_at_call 67; (with_reducible refine (HUi.out _ _ _ _ HCur.out.now ?hz).mono ?_); (case hz => (have l1 := HLl.out; (try simp only [List.length_append, List.length_singleton]); omega)); rintro e w5 ⟨rfl, g5, cs5, hst⟩; have HTmp := Lib.hid (HCur.out.trans hst); clear hst HCur; have HCur := HTmp; clear HTmp) | (go_at_call 58; (with_reducible refine (HWr.out _ _ _ _ HCur.out.now ?hz ?hC).mono ?_); (case hz => (have l1 := HLl.out; (try simp only [List.length_append, List.length_singleton]); omega)); (case hC => (rw [HN.out]; exact HCk.out _ _ _ _ HCur.out)); rintro e w5 ⟨rfl, g5, cs5, hst⟩; have HTmp := Lib.hid (HCur.out.trans hst); clear hst HCur; have HCur := HTmp; clear HTmp))
    go_end0
    have hS := HCur.out
    simp only [List.append_assoc, List.cons_append, List.nil_append] at hS ⊢
    exact ⟨rfl, _, _, hS⟩
set_option maxHeartbeats 1000000 in
set_option maxRecDepth 100000 in
/-- Bytes of a buffer. -/
theorem bytes_any (b q g : Nat) (T : TypeId) (cs : Array Value) (out : List Int) (w : World) (h : BufA w b q g T cs out) :
    Calls Tryd.prog 46 #[.pointer (some ⟨b, q, none⟩)] w fun e w' => ∃ A c, e = .returned (.slice A out.length c) ∧ (A = none ∨ A = some ⟨g, 0, none⟩ ∧ ¬ g = b) ∧ Kd.C (Kd.int .u8) w A out.length out ∧ out.length ≤ c ∧ ∃ n, w' = w.drewN n := by
  obtain ⟨hb, h1, h2, h4⟩ := h
  rcases h4 with ⟨h0, rfl, rfl⟩ | ⟨hgb, cap, cur, h0, hg, hcs, hcm, hlc, hold⟩
  · have c0 := (xb_cell hb q).trans h0
    have c1 := (xb_cell hb (q + 1)).trans h1
    clear hb h0 h1 h2
    go_enter Tryd.func46, Tryd.ntmps46
    go_wp2
    go_quiet (fail)
    go_wp2
    go_ret
    exact ⟨none, 0, ret_eq (by first | rfl | simp), .inl rfl, C_empty _ _ _, Nat.le_refl _, _, rfl⟩
  · refine (bufBytes b q g out.length cap w ((xb_cell hb q).trans h0) ((xb_cell hb (q + 1)).trans h1) hlc (by unfold maxLen at hcm; exact hcm)).mono ?_
    rintro e w' ⟨rfl, hd⟩
    obtain ⟨n, rfl⟩ := hd.out
    refine ⟨_, _, rfl, .inr ⟨rfl, hgb⟩, ?_, hlc, n, rfl⟩
    refine C_of (by unfold maxLen at hcm; omega) (fun i hi => ?_)
    rw [Nat.zero_add, xb_cell hg, ← Array.getElem?_toList]
    have e : cur.toList[i]? = (nums .u8 out)[i]? := by rw [← hold, List.getElem?_take, if_pos hi]
    rw [e]
    simp [nums, List.getD_eq_getElem?_getD, List.getElem?_eq_getElem hi]
set_option maxHeartbeats 1000000 in
set_option maxRecDepth 100000 in
/-- Output of a session. -/
theorem output_any (b g : Nat) (big : Bool) (chunk : Int) (out : List Int) (w : World) (h : Ses.WS w b g big chunk out) :
    Calls Tryd.prog 47 #[.pointer (some ⟨b, 0, none⟩)] w fun e w' => ∃ A c, e = .returned (.slice A out.length c) ∧ Kd.C (Kd.int .u8) w A out.length out ∧ ∃ n, w' = w.drewN n := by
  obtain ⟨v, lr, h⟩ := h.ex
  have HB := Lib.hid (bytes_any b 1 g _ _ out w h)
  clear h
  go_enter Tryd.func47, Tryd.ntmps47
  go_wp2_with (go_at_call 46; (with_reducible refine HB.out.mono ?_); rintro e w1 ⟨A, c, rfl, hA, hC, -, n1, rfl⟩; have HC := Lib.hid hC; clear hC hA)
  go_ret
  exact ⟨A, c, rfl, HC.out, n1, rfl⟩
end Go.Proofs.YtdnahdddkagfhaaDoor.X
/- impl.SessionPut of any steps. -/
namespace Go.Proofs.YtdnahdddkagfhaaDoor.X
open Go.RowKit Go.Proofs.YtdnahdddkagfhaaDoorW.PrintWords Go.Proofs.YtdnahdddkagfhaaDoorW.PrintMore
attribute [local go_sem] setCell_drewN alloc_drewN
set_option linter.unusedVariables false
set_option linter.unusedSimpArgs false
/-- A row of elements that is read, by addresses that are written out. -/
theorem Kd.C_head {α : Type} {d : Kd α} {w : World} {A : Option Addr} {n : Nat} {xs : List α} (h : d.C w A n xs) (hs : 0 < d.sz) (hn : 0 < n) :
    ∃ g o, A = some ⟨g, o, none⟩ ∧ g < w.heap.size ∧ ∀ j p, xs[j]? = some p → ∃ c, c.length = d.sz ∧ d.K w p c ∧ ∀ i u, c[i]? = some u → w.cell? ⟨g, o + j * d.sz + i, none⟩ = some u := by
  obtain ⟨hl, _, hh⟩ := h
  obtain ⟨ad, rfl, hc⟩ := hh hn
  obtain ⟨g, o, spot⟩ := ad
  obtain ⟨c, hcl, hK, hcell⟩ := hc 0 _ (List.getElem?_eq_getElem (by omega))
  have h0 := hcell 0 _ (List.getElem?_eq_getElem (by omega))
  have hsp : spot = none := by
    have := World.cell?_spot h0
    simpa [Addr.add] using this
  subst hsp
  refine ⟨g, o, rfl, ?_, fun j p hj => ?_⟩
  · have := World.block_lt_of_cell? w _ h0
    rw [Lib.addr_add] at this
    exact this
  · obtain ⟨c, hcl, hK, hcell⟩ := hc j p hj
    refine ⟨c, hcl, hK, fun i u hi => ?_⟩
    have := hcell i u hi
    rw [Lib.addr_add] at this
    rw [Nat.add_assoc]
    exact this
namespace Ses
/-- A step of a writer. -/
structure PS where
  kind : Int
  data : List Int
  other : List Int
  num : Int
  uns : Int
  size : Int
  flag : Int
  big : Bool
  comp : Bool
def psKd : Kd PS := Kd.iso (Kd.pair (Kd.int .i64) (Kd.pair (Kd.slice 5 (Kd.int .u8)) (Kd.pair (Kd.slice 5 (Kd.int .u8)) (Kd.pair (Kd.int .i64) (Kd.pair (Kd.int .u64) (Kd.pair (Kd.int .u8) (Kd.pair (Kd.int .u8) (Kd.pair Kd.bool Kd.bool)))))))) (fun p => (p.kind, p.data, p.other, p.num, p.uns, p.size, p.flag, p.big, p.comp))
theorem ps_open {w : World} {p : PS} {c : List Value} (h : psKd.K w p c) : ∃ A cA B cB, c = [.int .i64 p.kind, .slice A p.data.length cA, .slice B p.other.length cB, .int .i64 p.num, .int .u64 p.uns, .int .u8 p.size, .int .u8 p.flag, .bool p.big, .bool p.comp] ∧ Kd.C (Kd.int .u8) w A p.data.length p.data ∧ Kd.C (Kd.int .u8) w B p.other.length p.other := by
  obtain ⟨c0, d0, rfl, h0, c1, d1, rfl, ⟨A, cA, rfl, hA, hA2⟩, c2, d2, rfl, ⟨B, cB, rfl, hB, hB2⟩, c3, d3, rfl, h3, c4, d4, rfl, h4, c5, d5, rfl, h5, c6, d6, rfl, h6, c7, d7, rfl, h7, h8⟩ := h
  have e0 : c0 = [_] := h0
  have e3 : c3 = [_] := h3
  have e4 : c4 = [_] := h4
  have e5 : c5 = [_] := h5
  have e6 : c6 = [_] := h6
  have e7 : c7 = [_] := h7
  have e8 : d7 = [_] := h8
  subst e0; subst e3; subst e4; subst e5; subst e6; subst e7; subst e8
  exact ⟨A, cA, B, cB, rfl, hA2, hB2⟩
/-- A number that a size holds. -/
def OkN (n s : Int) : Prop := 0 ≤ n ∧ (s = 1 ∧ n < 256 ∨ s = 2 ∧ n < 65536 ∨ s = 4 ∧ n < 4294967296 ∨ s = 8 ∧ n < 18446744073709551616)
/-- A number as a step writes it. -/
def numB (two : Bool) (n s : Int) (be comp : Bool) : List Int := if comp && (two || decide (1 < s)) then Dg.packed n else if be then (Dg.plainL s.toNat n).reverse else Dg.plainL s.toNat n
/-- What a step writes. -/
def stepB (big : Bool) (c : Nat) (p : PS) : List Int :=
  if p.kind = 0 then p.data else if p.kind = 1 then Dg.clrB big c p.data else if p.kind = 2 then numB true p.num p.size p.big p.comp else if p.kind = 3 then numB false p.uns p.size p.big p.comp
  else if p.kind = 4 then Dg.dlcB big c p.data ++ Dg.dlcB big c p.other ++ Dg.packed p.flag else if p.kind = 5 then Dg.fixedB p.data else []
structure OkP (p : PS) : Prop where
  data : p.data.length ≤ 3000
  other : p.other.length ≤ 3000
  flag : 0 ≤ p.flag ∧ p.flag ≤ 255
  num : p.kind = 2 → OkN p.num p.size ∧ p.num < 9223372036854775808
  uns : p.kind = 3 → OkN p.uns p.size
theorem okN_len {n s : Int} (h : OkN n s) (two be comp : Bool) : (numB two n s be comp).length ≤ 9 := by
  unfold numB
  split
  · exact Dg.packed_len n
  · have : s.toNat ≤ 8 := by
      rcases h.2 with h | h | h | h <;> omega
    split
    · rw [List.length_reverse, Dg.plainL_len]; omega
    · rw [Dg.plainL_len]; omega
theorem stepB_len {p : PS} (h : OkP p) (big : Bool) (c : Nat) (hc : 1 ≤ c) : (stepB big c p).length ≤ 70000 := by
  have h1 := h.data
  have h2 := h.other
  unfold stepB
  split
  · omega
  split
  · have := Dg.clrB_len big c hc p.data; omega
  split
  · rename_i hk; have := okN_len (h.num hk).1 true p.big p.comp; omega
  split
  · rename_i hk; have := okN_len (h.uns hk) false p.big p.comp; omega
  split
  · have a := Dg.dlcB_len big c hc p.data
    have b := Dg.dlcB_len big c hc p.other
    have d := Dg.packed_len p.flag
    rw [List.length_append, List.length_append]; omega
  split
  · have := Dg.fixedB_len p.data; omega
  · simp
theorem plain1 (n : Int) (h0 : 0 ≤ n) (h : n < 256) : Dg.plainL 1 n = [n] := by
  rw [Dg.plainL, Dg.plainL]
  congr 1
  omega
end Ses
theorem putInt_any (b g : Nat) (big : Bool) (chunk : Int) (out : List Int) (n s : Int) (be comp : Bool) (w : World) (h : Ses.WS w b g big chunk out) (hN : Ses.OkN n s) (h63 : n < 9223372036854775808) (hlim : out.length + 9 ≤ 140737488355328) :
    Calls Tryd.prog 42 #[.pointer (some ⟨b, 0, none⟩), .iface 2 (.int .i64 n), .int .u8 s, .bool be, .bool comp] w (Ses.WP (.tuple #[]) b g big chunk (out ++ Ses.numB true n s be comp) w) := by
  obtain ⟨h0, hs⟩ := hN
  rcases hs with ⟨hs, hlt⟩ | ⟨hs, hlt⟩ | ⟨hs, hlt⟩ | ⟨hs, hlt⟩
  · subst hs
    obtain ⟨m, rfl⟩ := Int.eq_ofNat_of_zero_le h0
    cases comp
    · have hr := putInt_one b g big chunk out m be false w h (by omega) hlim
      have e : Ses.numB true (m : Int) 1 be false = [(m : Int)] := by
        have e1 := Ses.plain1 (m : Int) (by omega) (by omega)
        cases be
        · exact e1
        · show (Dg.plainL 1 (m : Int)).reverse = _
          rw [e1]; rfl
      rw [e]
      exact hr
    · have hr := putInt_packed b g big chunk out m 1 be w h (by omega) (by omega) (by omega) (by omega) hlim
      exact hr
  · subst hs
    obtain ⟨m, rfl⟩ := Int.eq_ofNat_of_zero_le h0
    cases comp
    · cases be
      · exact putInt_le2 b g big chunk out m w h (by omega) hlim
      · exact putInt_be2 b g big chunk out m w h (by omega) hlim
    · have hr := putInt_packed b g big chunk out m 2 be w h (by omega) (by omega) (by omega) (by omega) hlim
      exact hr
  · subst hs
    obtain ⟨m, rfl⟩ := Int.eq_ofNat_of_zero_le h0
    cases comp
    · cases be
      · exact putInt_le4 b g big chunk out m w h (by omega) hlim
      · exact putInt_be4 b g big chunk out m w h (by omega) hlim
    · have hr := putInt_packed b g big chunk out m 4 be w h (by omega) (by omega) (by omega) (by omega) hlim
      exact hr
  · subst hs
    obtain ⟨m, rfl⟩ := Int.eq_ofNat_of_zero_le h0
    cases comp
    · cases be
      · exact putInt_le8 b g big chunk out m w h (by omega) hlim
      · exact putInt_be8 b g big chunk out m w h (by omega) hlim
    · have hr := putInt_packed b g big chunk out m 8 be w h (by omega) (by omega) (by omega) (by omega) hlim
      exact hr
theorem putUint_any (b g : Nat) (big : Bool) (chunk : Int) (out : List Int) (n s : Int) (be comp : Bool) (w : World) (h : Ses.WS w b g big chunk out) (hN : Ses.OkN n s) (hlim : out.length + 9 ≤ 140737488355328) :
    Calls Tryd.prog 43 #[.pointer (some ⟨b, 0, none⟩), .iface 27 (.int .u64 n), .int .u8 s, .bool be, .bool comp] w (Ses.WP (.tuple #[]) b g big chunk (out ++ Ses.numB false n s be comp) w) := by
  obtain ⟨h0, hs⟩ := hN
  rcases hs with ⟨hs, hlt⟩ | ⟨hs, hlt⟩ | ⟨hs, hlt⟩ | ⟨hs, hlt⟩
  · subst hs
    obtain ⟨m, rfl⟩ := Int.eq_ofNat_of_zero_le h0
    cases comp
    · have hr := putUint_one b g big chunk out m be false w h (by omega) hlim
      have e : Ses.numB false (m : Int) 1 be false = [(m : Int)] := by
        have e1 := Ses.plain1 (m : Int) (by omega) (by omega)
        cases be
        · exact e1
        · show (Dg.plainL 1 (m : Int)).reverse = _
          rw [e1]; rfl
      rw [e]
      exact hr
    · have hr := putUint_one b g big chunk out m be true w h (by omega) hlim
      have e : Ses.numB false (m : Int) 1 be true = [(m : Int)] := by
        have e1 := Ses.plain1 (m : Int) (by omega) (by omega)
        cases be
        · exact e1
        · show (Dg.plainL 1 (m : Int)).reverse = _
          rw [e1]; rfl
      rw [e]
      exact hr
  · subst hs
    obtain ⟨m, rfl⟩ := Int.eq_ofNat_of_zero_le h0
    cases comp
    · cases be
      · exact putUint_le2 b g big chunk out m w h (by omega) hlim
      · exact putUint_be2 b g big chunk out m w h (by omega) hlim
    · have hr := putUint_packed b g big chunk out m 2 be w h (by omega) (by omega) (by omega) (by omega) hlim
      exact hr
  · subst hs
    obtain ⟨m, rfl⟩ := Int.eq_ofNat_of_zero_le h0
    cases comp
    · cases be
      · exact putUint_le4 b g big chunk out m w h (by omega) hlim
      · exact putUint_be4 b g big chunk out m w h (by omega) hlim
    · have hr := putUint_packed b g big chunk out m 4 be w h (by omega) (by omega) (by omega) (by omega) hlim
      exact hr
  · subst hs
    obtain ⟨m, rfl⟩ := Int.eq_ofNat_of_zero_le h0
    cases comp
    · cases be
      · exact putUint_le8 b g big chunk out m w h (by omega) hlim
      · exact putUint_be8 b g big chunk out m w h (by omega) hlim
    · have hr := putUint_packed b g big chunk out m 8 be w h (by omega) (by omega) (by omega) (by omega) hlim
      exact hr
end Go.Proofs.YtdnahdddkagfhaaDoor.X
/- impl.SessionPut of any steps: the walk. -/
namespace Go.Proofs.YtdnahdddkagfhaaDoor.X
open Go.RowKit Go.Proofs.YtdnahdddkagfhaaDoorW.PrintWords Go.Proofs.YtdnahdddkagfhaaDoorW.PrintMore
attribute [local go_sem] setCell_drewN alloc_drewN
set_option linter.unusedVariables false
set_option linter.unusedSimpArgs false
namespace Ses
theorem below_kp2 {B : Nat} {a w w' : World} {b : Nat} (h : Below B a w) (k : Kp2 w w' b b) (hB : B ≤ w.heap.size) (hb : B ≤ b) : Below B a w' := Kp2.below h k hB hb hb
theorem below_drewB (B : Nat) (w : World) (n : Nat) : Below B w (w.drewN n) := ⟨rfl, rfl, rfl, Nat.le_refl _, fun _ _ => rfl⟩
/-- What the steps from j on have still to write. -/
theorem flat_step {ps : List PS} {f : PS → List Int} {j : Nat} {p : PS} (hp : ps[j]? = some p) : (ps.take (j + 1)).flatMap f = (ps.take j).flatMap f ++ f p := by
  obtain ⟨hl, rfl⟩ := List.getElem?_eq_some_iff.1 hp
  rw [List.take_succ_eq_append_getElem hl, List.flatMap_append]
  simp
theorem flat_len {ps : List PS} (ok : ∀ p ∈ ps, OkP p) (big : Bool) (c : Nat) (hc : 1 ≤ c) : ∀ j : Nat, ((ps.take j).flatMap (stepB big c)).length ≤ 70000 * j := by
  intro j
  induction j with
  | zero => simp
  | succ j ih =>
    by_cases hj : j < ps.length
    · have hp : ps[j]? = some ps[j] := List.getElem?_eq_getElem hj
      rw [flat_step hp, List.length_append]
      have := stepB_len (ok _ (List.getElem_mem hj)) big c hc
      omega
    · rw [List.take_of_length_le (by omega)] at ih ⊢
      omega
end Ses
set_option maxHeartbeats 16000000 in
set_option maxRecDepth 100000 in
theorem sessionPut_any (ps : List Ses.PS) (A : Option Addr) (cA : Nat) (big : Bool) (c : Nat) (w : World) (hC : Ses.psKd.C w A ps.length ps) (hle : ps.length ≤ cA) (ok : ∀ p ∈ ps, Ses.OkP p) (hn : ps.length ≤ 100) (hc1 : 1 ≤ c) (hc2 : c ≤ 252) :
    Calls Tryd.prog 16 #[.slice A ps.length cA, .bool big, .int .i64 c] w fun e w' => ∃ v, e = .returned v ∧ Kd.R (Kd.int .u8) 5 w' w.heap.size (fun _ => True) v (ps.flatMap (Ses.stepB big c)) ∧ Below w.heap.size w w' := by
  have HC := Lib.hid hC
  have HOk := Lib.hid ok
  have HFl := Lib.hid (Ses.flat_len ok big c hc1)
  obtain ⟨n, hnl⟩ : ∃ n, n = ps.length := ⟨_, rfl⟩
  have HN := Lib.hid hnl
  rw [← hnl] at hn hle ⊢
  clear hC ok hnl
  go_enter Tryd.func16, Tryd.ntmps16
  go_wp2_with (go_at_call 39; (with_reducible refine (newSession _ w ⟨_, _, _, rfl⟩).mono ?_); rintro e w2 ⟨rfl, rfl⟩)
  have HBk : Hid ((w.alloc (.cells #[.slice none 0 0, .slice none 0 0, .int .i64 0, .int .i8 0, .int .i64 0, .bool big, .int .i64 c] 82)).heap[w.heap.size]? = some (.cells #[.slice none 0 0, .slice none 0 0, .int .i64 0, .int .i8 0, .int .i64 0, .bool big, .int .i64 c] 82 (0, 0))) := Lib.hid (xb_new _ _)
  have HBw : Hid (Below w.heap.size w (w.alloc (.cells #[.slice none 0 0, .slice none 0 0, .int .i64 0, .int .i8 0, .int .i64 0, .bool big, .int .i64 c] 82))) := Lib.hid (below_alloc (Below.refl _ _) _)
  generalize w.alloc (.cells #[.slice none 0 0, .slice none 0 0, .int .i64 0, .int .i8 0, .int .i64 0, .bool big, .int .i64 c] 82) = w3 at *
  have HW0 : Hid (Ses.WS w3 w.heap.size w.heap.size big (c : Int) []) := Lib.hid ⟨.slice none 0 0, 0, ⟨HBk.out, rfl, ⟨0, rfl⟩, .inl ⟨rfl, rfl, rfl⟩⟩⟩
  go_loopw [24] (fun v24 wr => ∃ (j g' : Nat), v24 = .int .i64 j ∧ j ≤ n ∧ Hid (Ses.WStep w3 wr w.heap.size w.heap.size g' big (c : Int) ((ps.take j).flatMap (Ses.stepB big c)))) (fun v24 _ => n - (intOf v24).toNat)
  case atStart => exact ⟨0, w.heap.size, rfl, Nat.zero_le _, Lib.hid (by rw [List.take_zero]; exact Ses.WStep.of HW0.out)⟩
  case round =>
    obtain ⟨j, g', rfl, hj, HS⟩ := hrel
    have HBl : Hid (Below w.heap.size w wr) := Lib.hid (Ses.below_kp2 HBw.out HS.out.kept HBw.out.size (Nat.le_refl _))
    by_cases hlt : j < n
    · have hjl : j < ps.length := by rw [← HN.out]; exact hlt
      obtain ⟨p, hp⟩ : ∃ p, ps[j]? = some p := ⟨_, List.getElem?_eq_getElem hjl⟩
      have HOp := Lib.hid (HOk.out p (List.mem_of_getElem? hp))
      obtain ⟨g0, o0, rfl, -, hel⟩ := Kd.C_head (Kd.C_below HC.out HBl.out) (by decide) (by omega)
      obtain ⟨cl, -, hK, hcell⟩ := hel j p hp
      obtain ⟨A1, c1, A2, c2, rfl, hA1, hA2⟩ := Ses.ps_open hK
      obtain ⟨kd, data, other, num, uns, size, flag, pb, pc⟩ := p
      simp only at hA1 hA2
      have s0 : wr.cell? ⟨g0, o0 + j * 9, none⟩ = some (.int .i64 kd) := hcell 0 _ rfl
      have s1 : wr.cell? ⟨g0, o0 + j * 9 + 1, none⟩ = some (.slice A1 data.length c1) := hcell 1 _ rfl
      have s2 : wr.cell? ⟨g0, o0 + j * 9 + 2, none⟩ = some (.slice A2 other.length c2) := hcell 2 _ rfl
      have s3 : wr.cell? ⟨g0, o0 + j * 9 + 3, none⟩ = some (.int .i64 num) := hcell 3 _ rfl
      have s4 : wr.cell? ⟨g0, o0 + j * 9 + 4, none⟩ = some (.int .u64 uns) := hcell 4 _ rfl
      have s5 : wr.cell? ⟨g0, o0 + j * 9 + 5, none⟩ = some (.int .u8 size) := hcell 5 _ rfl
      have s6 : wr.cell? ⟨g0, o0 + j * 9 + 6, none⟩ = some (.int .u8 flag) := hcell 6 _ rfl
      have s7 : wr.cell? ⟨g0, o0 + j * 9 + 7, none⟩ = some (.bool pb) := hcell 7 _ rfl
      have s8 : wr.cell? ⟨g0, o0 + j * 9 + 8, none⟩ = some (.bool pc) := hcell 8 _ rfl
      have HP := Lib.hid hp
      have HA1 := Lib.hid hA1
      have HA2 := Lib.hid hA2
      obtain ⟨nd, hnd⟩ : ∃ nd, nd = data.length := ⟨_, rfl⟩
      obtain ⟨no, hno⟩ : ∃ no, no = other.length := ⟨_, rfl⟩
      rw [← hnd] at s1
      rw [← hno] at s2
      have HNd := Lib.hid hnd
      have HNo := Lib.hid hno
      clear hp hel hK hcell hA1 hA2 hjl hnd hno
      go_wp2
      have HB4 : Hid (Below wr.heap.size wr (wr.alloc (.cells #[.int .i64 kd, .slice A1 nd c1, .slice A2 no c2, .int .i64 num, .int .u64 uns, .int .u8 size, .int .u8 flag, .bool pb, .bool pc] 29))) := Lib.hid (below_alloc (Below.refl _ _) _)
      have hq : (wr.alloc (.cells #[.int .i64 kd, .slice A1 nd c1, .slice A2 no c2, .int .i64 num, .int .u64 uns, .int .u8 size, .int .u8 flag, .bool pb, .bool pc] 29)).heap[wr.heap.size]? = some (.cells #[.int .i64 kd, .slice A1 nd c1, .slice A2 no c2, .int .i64 num, .int .u64 uns, .int .u8 size, .int .u8 flag, .bool pb, .bool pc] 29 (0, 0)) := xb_new _ _
      have q0 := xb_cell hq 0
      have q1 := xb_cell hq 1
      have q2 := xb_cell hq 2
      have q3 := xb_cell hq 3
      have q4 := xb_cell hq 4
      have q5 := xb_cell hq 5
      have q6 := xb_cell hq 6
      have q7 := xb_cell hq 7
      have q8 := xb_cell hq 8
      simp only [List.getElem?_toArray, List.getElem?_cons_zero, List.getElem?_cons_succ] at q0 q1 q2 q3 q4 q5 q6 q7 q8
      clear hq s0 s1 s2 s3 s4 s5 s6 s7 s8
      generalize wr.alloc (.cells #[.int .i64 kd, .slice A1 nd c1, .slice A2 no c2, .int .i64 num, .int .u64 uns, .int .u8 size, .int .u8 flag, .bool pb, .bool pc] 29) = w4 at *
      have HC1 : Hid (∀ W : World, Below w4.heap.size w4 W → Calls Tryd.prog 17 #[.slice A1 nd c1] W fun e w' => ∃ v, e = .returned v ∧ Kd.R (Kd.int .u8) 5 w' W.heap.size (fun _ => True) v data ∧ Below W.heap.size W w') := Lib.hid (fun W hW => by
        have h := clone_any A1 c1 data W (Kd.C_below (Kd.C_below HA1.out HB4.out) hW) (by have := HOp.out.data; simp only at this; omega)
        rw [← HNd.out] at h
        exact h)
      have HC2 : Hid (∀ W : World, Below w4.heap.size w4 W → Calls Tryd.prog 17 #[.slice A2 no c2] W fun e w' => ∃ v, e = .returned v ∧ Kd.R (Kd.int .u8) 5 w' W.heap.size (fun _ => True) v other ∧ Below W.heap.size W w') := Lib.hid (fun W hW => by
        have h := clone_any A2 c2 other W (Kd.C_below (Kd.C_below HA2.out HB4.out) hW) (by have := HOp.out.other; simp only at this; omega)
        rw [← HNo.out] at h
        exact h)
      go_region_held3 (fun w' => w'.cell? ⟨wr.heap.size, 1, none⟩ = some (.slice A1 nd c1) ∧ w'.cell? ⟨wr.heap.size, 2, none⟩ = some (.slice A2 no c2)) (first | exact ⟨q1, q2⟩ | exact ⟨k1, k2⟩ | exact ⟨m1, m2⟩) (first | (go_at_call 17; (with_reducible refine (HC1.out _ ?hb).mono ?_); (case hb => exact below_drew (Below.refl _ _)); rintro e w5 ⟨v5, rfl, hR5, hb5⟩; have HB5 := Lib.hid ((below_drew (Below.refl w4.heap.size w4)).trans hb5); have HR5 := Lib.hid hR5; have k1 := bl_cell HB5.out q1; have k2 := bl_cell HB5.out q2; clear hR5 hb5) | (go_at_call 17; (with_reducible refine (HC2.out _ ?hb).mono ?_); (case hb => exact HB5.out); rintro e w6 ⟨v6, rfl, hR6, hb6⟩; have HB6 := Lib.hid (HB5.out.trans (hb6.mono HB5.out.size)); have HR6 := Lib.hid hR6; have HB56 := Lib.hid hb6; have m1 := bl_cell HB6.out q1; have m2 := bl_cell HB6.out q2; clear hR6 hb6))
      obtain ⟨A5, c5, rfl, hle5, hC5, hab5, hcp5⟩ := Ses.R_slots HR5.out
      obtain ⟨A6, c6, rfl, hle6, hC6, hab6, hcp6⟩ := Ses.R_slots HR6.out
      have HC5 := Lib.hid (Kd.C_below hC5 HB56.out)
      have HC6 := Lib.hid hC6
      have HA5 := Lib.hid hab5
      have HA6 := Lib.hid hab6
      have HL5 := Lib.hid hle5
      have HL6 := Lib.hid hle6
      have HCap := Lib.hid (And.intro hcp5 hcp6)
      rw [← HNd.out, ← HNo.out]
      clear hcp5 hcp6 hle5 hle6 hC5 hC6 hab5 hab6 k1 k2 m1 m2
      have z0 := bl_cell HB6.out q0
      have z1 := bl_cell HB6.out q1
      have z2 := bl_cell HB6.out q2
      have z3 := bl_cell HB6.out q3
      have z4 := bl_cell HB6.out q4
      have z5 := bl_cell HB6.out q5
      have z6 := bl_cell HB6.out q6
      have z7 := bl_cell HB6.out q7
      have z8 := bl_cell HB6.out q8
      clear q0 q1 q2 q3 q4 q5 q6 q7 q8
      have HW6 := Lib.hid (HS.out.after (HB4.out.trans (HB6.out.mono HB4.out.size)))
      have HZ : Hid (w.heap.size < wr.heap.size ∧ g' < wr.heap.size ∧ wr.heap.size ≤ w4.heap.size ∧ w4.heap.size ≤ w5.heap.size ∧ w5.heap.size ≤ w6.heap.size ∧ w4.drew.heap.size = w4.heap.size) := Lib.hid ⟨HS.out.now.lt, HS.out.now.ltg, HB4.out.size, HB5.out.size, HB56.out.size, rfl⟩
      have HF : Hid (((ps.take j).flatMap (Ses.stepB big c)).length ≤ 7000000) := Lib.hid (by have := HFl.out j; omega)
      have HF1 := Lib.hid (Ses.flat_step (f := Ses.stepB big c) HP.out)
      obtain ⟨fl, hfl⟩ : ∃ fl, fl = (ps.take j).flatMap (Ses.stepB big c) := ⟨_, rfl⟩
      rw [← hfl] at HF HF1 HW6
      clear hfl HFl
      rcases Classical.em (kd = 0) with rfl | n0
      · have HK := Lib.hid (putBytes_any w.heap.size g' big (c : Int) fl data A5 c5 w6 HW6.out.now HC5.out (fun a e => by have := HA5.out a e; have := HZ.out; omega) (by have := HF.out; have := HOp.out.data; simp only at this; omega))
        rw [← HNd.out] at HK
        go_wp2_with (go_at_call 40; (with_reducible refine HK.out.mono ?_); rintro e w7 ⟨rfl, g7, hst⟩; have HS7 := Lib.hid (HW6.out.trans hst); clear hst)
        go_roundw
        case measure => simp [intOf]; omega
        case rel =>
          refine ⟨j + 1, g7, by go_num, by omega, Lib.hid ?_⟩
          rw [HF1.out]
          have hS := HS7.out
          first | exact hS | (rw [List.append_assoc, List.append_assoc, ← List.append_assoc (Dg.dlcB big c data)] at hS; exact hS)
      rcases Classical.em (kd = 1) with rfl | n1
      · have HK := Lib.hid (putClr_any w.heap.size g' big c fl data A5 c5 w6 HW6.out.now HC5.out HL5.out (HCap.out.1) (fun a e => by have := HA5.out a e; have := HZ.out; omega) (by have := HOp.out.data; simp only at this; omega) hc1 hc2 (by have := HF.out; omega))
        rw [← HNd.out] at HK
        go_wp2_with (go_at_call 41; (with_reducible refine HK.out.mono ?_); rintro e w7 ⟨rfl, g7, hst⟩; have HS7 := Lib.hid (HW6.out.trans hst); clear hst)
        go_roundw
        case measure => simp [intOf]; omega
        case rel =>
          refine ⟨j + 1, g7, by go_num, by omega, Lib.hid ?_⟩
          rw [HF1.out]
          have hS := HS7.out
          first | exact hS | (rw [List.append_assoc, List.append_assoc, ← List.append_assoc (Dg.dlcB big c data)] at hS; exact hS)
      rcases Classical.em (kd = 2) with rfl | n2
      · have HK := Lib.hid (putInt_any w.heap.size g' big (c : Int) fl num size pb pc w6 HW6.out.now (HOp.out.num rfl).1 (HOp.out.num rfl).2 (by have := HF.out; omega))
        go_wp2_with (go_at_call 42; (with_reducible refine HK.out.mono ?_); rintro e w7 ⟨rfl, g7, hst⟩; have HS7 := Lib.hid (HW6.out.trans hst); clear hst)
        go_roundw
        case measure => simp [intOf]; omega
        case rel =>
          refine ⟨j + 1, g7, by go_num, by omega, Lib.hid ?_⟩
          rw [HF1.out]
          have hS := HS7.out
          first | exact hS | (rw [List.append_assoc, List.append_assoc, ← List.append_assoc (Dg.dlcB big c data)] at hS; exact hS)
      rcases Classical.em (kd = 3) with rfl | n3
      · have HK := Lib.hid (putUint_any w.heap.size g' big (c : Int) fl uns size pb pc w6 HW6.out.now (HOp.out.uns rfl) (by have := HF.out; omega))
        go_wp2_with (go_at_call 43; (with_reducible refine HK.out.mono ?_); rintro e w7 ⟨rfl, g7, hst⟩; have HS7 := Lib.hid (HW6.out.trans hst); clear hst)
        go_roundw
        case measure => simp [intOf]; omega
        case rel =>
          refine ⟨j + 1, g7, by go_num, by omega, Lib.hid ?_⟩
          rw [HF1.out]
          have hS := HS7.out
          first | exact hS | (rw [List.append_assoc, List.append_assoc, ← List.append_assoc (Dg.dlcB big c data)] at hS; exact hS)
      rcases Classical.em (kd = 4) with rfl | n4
      · obtain ⟨fn, rfl⟩ := Int.eq_ofNat_of_zero_le HOp.out.flag.1
        have HK := Lib.hid (putKeyVal_any w.heap.size g' big c fl data other fn A5 A6 c5 c6 w6 HW6.out.now HC5.out HC6.out HL5.out HL6.out (HCap.out.1) (HCap.out.2) (fun a e => by have := HA5.out a e; have := HZ.out; omega) (fun a e => by have := HA6.out a e; have := HZ.out; omega) (by have := HOp.out.data; simp only at this; omega) (by have := HOp.out.other; simp only at this; omega) hc1 hc2 (by have := HOp.out.flag.2; simp only at this; omega) (by have := HF.out; omega))
        rw [← HNd.out, ← HNo.out] at HK
        go_wp2_with (go_at_call 44; (with_reducible refine HK.out.mono ?_); rintro e w7 ⟨rfl, g7, hst⟩; have HS7 := Lib.hid (HW6.out.trans hst); clear hst)
        go_roundw
        case measure => simp [intOf]; omega
        case rel =>
          refine ⟨j + 1, g7, by go_num, by omega, Lib.hid ?_⟩
          rw [HF1.out]
          have hS := HS7.out
          first | exact hS | (rw [List.append_assoc, List.append_assoc, ← List.append_assoc (Dg.dlcB big c data)] at hS; exact hS)
      rcases Classical.em (kd = 5) with rfl | n5
      · obtain ⟨fx, hfx⟩ : ∃ fx, fx = Dg.fixedB data := ⟨_, rfl⟩
        have HFx := Lib.hid hfx
        have HLx := Lib.hid (Dg.fixedB_len data)
        have HK := Lib.hid (fixedClr_any w.heap.size w6.heap.size 0 w6.heap.size 80 #[.slice none 0 0, .int .i64 0, .int .i8 0] [] data A5 c5 (w6.alloc (.cells #[.slice none 0 0, .int .i64 0, .int .i8 0] 80)) ⟨xb_new _ _, rfl, ⟨0, rfl⟩, .inl ⟨rfl, rfl, rfl⟩⟩ (Kd.C_below HC5.out (below_alloc (Below.refl _ _) _)) (fun a e => by have h := HA5.out a e; have hz := HZ.out; omega) (by have := HOp.out.data; simp only at this; omega) (by simp))
        rw [← HNd.out, List.nil_append, ← hfx] at HK
        rw [← hfx] at HLx
        have HPb := Lib.hid (fun (W : World) (A : Option Addr) (cc : Nat) (hws : Ses.WS W w.heap.size g' big (c : Int) fl) (hC : Kd.C (Kd.int .u8) W A fx.length fx) (hab : ∀ a, A = some a → a.block ≠ w.heap.size) => putBytes_any w.heap.size g' big (c : Int) fl fx A cc W hws hC hab (by have := HF.out; have := HLx.out; have := HOp.out.data; simp only at this; omega))
        clear hfx
        go_wp2_with (first | (go_at_call 45; (with_reducible refine HK.out.mono ?_); rintro e w7 ⟨rfl, gb, cs7, hst⟩; have HS5 := Lib.hid hst; have HBy := Lib.hid (bytes_any w6.heap.size 0 gb _ _ _ w7 hst.now); (have HB67 : Hid (Below w6.heap.size w6 w7) := Lib.hid (Ses.below_kp2 (below_alloc (Below.refl _ _) _) hst.kept (by rw [World.size_alloc]; omega) (Nat.le_refl _))); (have hrow := hst.row; rw [World.size_alloc] at hrow); have HGb : Hid (w6.heap.size ≤ gb) := Lib.hid (by omega); clear hst hrow) | (go_at_call 46; (with_reducible refine HBy.out.mono ?_); rintro e w8 ⟨A7, c7, rfl, hA7, hC7, -, n8, rfl⟩; have HC7 := Lib.hid hC7; have HA7 := Lib.hid hA7; clear hC7 hA7) | (go_at_call 40; (with_reducible refine (HPb.out _ _ _ ?hws ?hC ?hab).mono ?_); (case hws => exact HW6.out.now.bl (HB67.out.trans (Ses.below_drewB _ _ _))); (case hC => exact Kd.C_below HC7.out (bl_drewN _ _)); (case hab => intro a e; have hg := HGb.out; have hz := HZ.out; rcases HA7.out with h | ⟨h, _⟩ <;> rw [h] at e <;> cases e <;> (show gb ≠ _; omega)); rintro e w9 ⟨rfl, g9, hst⟩; have HS7 := Lib.hid ((HW6.out.after (HB67.out.trans (Ses.below_drewB _ _ _))).trans hst); clear hst))
        go_roundw
        case measure => simp [intOf]; omega
        case rel =>
          refine ⟨j + 1, g9, by go_num, by omega, Lib.hid ?_⟩
          rw [HF1.out]
          have hS := HS7.out
          rw [HFx.out] at hS
          exact hS
      · have t0 : (kd == 0) = false := beq_eq_false_iff_ne.2 n0
        have t1 : (kd == 1) = false := beq_eq_false_iff_ne.2 n1
        have t2 : (kd == 2) = false := beq_eq_false_iff_ne.2 n2
        have t3 : (kd == 3) = false := beq_eq_false_iff_ne.2 n3
        have t4 : (kd == 4) = false := beq_eq_false_iff_ne.2 n4
        have t5 : (kd == 5) = false := beq_eq_false_iff_ne.2 n5
        have HN0 := Lib.hid (show Ses.stepB big c ⟨kd, data, other, num, uns, size, flag, pb, pc⟩ = [] by unfold Ses.stepB; simp only; rw [if_neg n0, if_neg n1, if_neg n2, if_neg n3, if_neg n4, if_neg n5])
        clear n0 n1 n2 n3 n4 n5
        go_wp2
        go_roundw
        case measure => simp [intOf]; omega
        case rel =>
          refine ⟨j + 1, g', by go_num, by omega, Lib.hid ?_⟩
          rw [HF1.out, HN0.out, List.append_nil]
          exact HW6.out
    · have hjn : j = n := by omega
      have htk : ps.take j = ps := List.take_of_length_le (by have := HN.out; omega)
      rw [htk] at HS
      have t0 : decide ((j : Int) < (n : Int)) = false := decide_eq_false (by omega)
      have HTot := HFl.out n
      rw [show ps.take n = ps from List.take_of_length_le (by have := HN.out; omega)] at HTot
      have HO := Lib.hid (output_any w.heap.size g' big (c : Int) _ wr HS.out.now)
      have HTl := Lib.hid (show (ps.flatMap (Ses.stepB big c)).length ≤ 7000000 by omega)
      clear htk HTot
      obtain ⟨tot, htot⟩ : ∃ tot, tot = ps.flatMap (Ses.stepB big c) := ⟨_, rfl⟩
      rw [← htot] at HO HTl
      have HTo := Lib.hid htot
      clear htot
      have HCl := Lib.hid (fun (W : World) (A : Option Addr) (cc : Nat) (h : Kd.C (Kd.int .u8) W A tot.length tot) => clone_any A cc tot W h (by have := HTl.out; omega))
      obtain ⟨nt, hnt⟩ : ∃ nt, nt = tot.length := ⟨_, rfl⟩
      rw [← hnt] at HO HCl
      clear hnt hjn
      go_wp2_with (first | (go_at_call 47; (with_reducible refine HO.out.mono ?_); rintro e w8 ⟨A8, c8, rfl, hC8, n8, rfl⟩; have HC8 := Lib.hid hC8; clear hC8) | (go_at_call 17; (with_reducible refine (HCl.out _ _ _ ?hC).mono ?_); (case hC => exact HC8.out); rintro e w9 ⟨v9, rfl, hR9, hb9⟩; have HR9 := Lib.hid hR9; have HB9 := Lib.hid hb9; clear hR9 hb9))
      go_ret
      have hB : Below wr.heap.size wr w9 := (bl_drewN wr n8).trans (HB9.out.mono (Nat.le_refl _))
      rw [← HTo.out]
      exact ⟨v9, rfl, Kd.R_lower HR9.out (show w.heap.size ≤ wr.heap.size from HBl.out.size), HBl.out.trans (hB.mono HBl.out.size)⟩
end Go.Proofs.YtdnahdddkagfhaaDoor.X
