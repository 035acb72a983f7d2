/- Reading of a session: (*Session).read, GetByte, GetBytes, where the input is long enough. -/
import Derived.Test.YtdnahdddkagfhaaDoorProg
import Derived.Test.YtdnahdddkagfhaaDoorKit
import Derived.Test.YtdnahdddkagfhaaDoorShelf
namespace Go.Proofs.YtdnahdddkagfhaaDoor.X
open Go.RowKit Go.Proofs.YtdnahdddkagfhaaDoorW.PrintWords Go.Proofs.YtdnahdddkagfhaaDoorW.PrintMore
attribute [local go_sem] setCell_drewN alloc_drewN
set_option linter.unusedVariables false
set_option linter.unusedSimpArgs false
theorem _root_.Go.World.grownBy.drew {a w : World} {row : Option Nat} (h : a.grownBy w row) : a.grownBy w.drew row := grown_bl h (below_drew (Below.refl _ _))
namespace Ses
/-- The cells of a session that only reads. -/
def cellsR (g n c idx : Nat) (big : Bool) (chunk : Int) : Array Value := #[.slice (some ⟨g, 0, none⟩) n c, .slice none 0 0, .int .i64 0, .int .i8 0, .int .i64 idx, .bool big, .int .i64 chunk]
/-- A session at block b whose input, at block g, is l, of which idx are read. -/
structure RS (w : World) (b g c : Nat) (l : List Int) (idx : Nat) (big : Bool) (chunk : Int) : Prop where
  blk : w.heap[b]? = some (.cells (cellsR g l.length c idx big chunk) 82 (0, 0))
  ne : g ≠ b
  cap : l.length ≤ c
  cells : ∀ i : Nat, i < l.length → w.cell? ⟨g, i, none⟩ = some (.int .u8 (l.getD i 0))
  max : l.length ≤ 1000000
  lt : g < w.heap.size
theorem RS.bl {w w' : World} {b g c : Nat} {l : List Int} {idx : Nat} {big : Bool} {chunk : Int} (h : RS w b g c l idx big chunk) (k : Below w.heap.size w w') : RS w' b g c l idx big chunk :=
  ⟨blk_bl h.blk k (xb_lt h.blk), h.ne, h.cap, fun i hi => bl_cell k (h.cells i hi), h.max, Nat.lt_of_lt_of_le h.lt k.size⟩
theorem RS.grown {w w' : World} {b g c r : Nat} {l : List Int} {idx : Nat} {big : Bool} {chunk : Int} (h : RS w b g c l idx big chunk) (k : w.grownBy w' (some r)) (hb : b ≠ r) (hg : g ≠ r) : RS w' b g c l idx big chunk := by
  have e1 := k.block b (xb_lt h.blk) (fun e => hb (Option.some.inj e))
  have e2 := k.block g h.lt (fun e => hg (Option.some.inj e))
  refine ⟨e1.trans h.blk, h.ne, h.cap, fun i hi => ?_, h.max, Nat.lt_of_lt_of_le h.lt k.size⟩
  have hc := h.cells i hi
  unfold World.cell? at hc ⊢
  rw [e2]
  exact hc
theorem RS.put {w : World} {b g c : Nat} {l : List Int} {idx : Nat} {big : Bool} {chunk : Int} (h : RS w b g c l idx big chunk) (j : Nat) : RS (w.setCell ⟨b, 4, none⟩ (.int .i64 j)) b g c l j big chunk := by
  refine ⟨?_, h.ne, h.cap, fun i hi => (set_far h.ne).trans (h.cells i hi), h.max, by rw [World.size_setCell]; exact h.lt⟩
  rw [xb_set h.blk 4]
  rfl
theorem RS.drew {w : World} {b g c : Nat} {l : List Int} {idx : Nat} {big : Bool} {chunk : Int} (h : RS w b g c l idx big chunk) (m : Nat) : RS (w.drewN m) b g c l idx big chunk := h.bl (bl_drewN w m)
theorem RS.c0 {w : World} {b g c : Nat} {l : List Int} {idx : Nat} {big : Bool} {chunk : Int} (h : RS w b g c l idx big chunk) : w.cell? ⟨b, 0, none⟩ = some (.slice (some ⟨g, 0, none⟩) l.length c) := by rw [xb_cell h.blk]; rfl
theorem RS.c4 {w : World} {b g c : Nat} {l : List Int} {idx : Nat} {big : Bool} {chunk : Int} (h : RS w b g c l idx big chunk) : w.cell? ⟨b, 4, none⟩ = some (.int .i64 idx) := by rw [xb_cell h.blk]; rfl
theorem RS.c5 {w : World} {b g c : Nat} {l : List Int} {idx : Nat} {big : Bool} {chunk : Int} (h : RS w b g c l idx big chunk) : w.cell? ⟨b, 5, none⟩ = some (.bool big) := by rw [xb_cell h.blk]; rfl
end Ses
set_option maxHeartbeats 4000000 in
set_option maxRecDepth 100000 in
theorem read_ok (w : World) (b g c : Nat) (l : List Int) (idx k : Nat) (big : Bool) (chunk : Int) (h : Ses.RS w b g c l idx big chunk) (hk : idx + k ≤ l.length) (hk0 : 0 < k) :
    Calls Tryd.prog 82 #[.pointer (some ⟨b, 0, none⟩), .int .i64 k] w fun e w' => e = .returned (.tuple #[.slice (some ⟨g, idx, none⟩) k (c - idx), .nilIface]) ∧ Ses.RS w' b g c l (idx + k) big chunk ∧ w.grownBy w' (some b) := by
  have HH := Lib.hid h
  have c0 := h.c0
  have c4 := h.c4
  have f4 := blk_free h.blk 4
  obtain ⟨hblk, hne, hcap, hcells, hmax, hlt⟩ := h
  clear hblk hcells
  have HN : Hid (l.length = l.length) := Lib.hid rfl
  generalize hn : l.length = n at *
  have p0 : (0 : Int) ≤ (idx : Int) := by omega
  have p1 : (idx : Int) ≤ (idx : Int) + (k : Int) := by omega
  have p2 : (idx : Int) + (k : Int) ≤ (n : Int) := by omega
  have p4 : decide ((n : Int) < (idx : Int) + (k : Int)) = false := decide_eq_false (by omega)
  have p5 : (idx : Int) + (k : Int) ≤ (c : Int) := by omega
  have p6 : (0 : Int) ≤ (idx : Int) + (k : Int) := by omega
  have p7 : (idx : Int) ≤ (c : Int) := by omega
  have p8 : decide ((k : Int) < (k : Int)) = false := decide_eq_false (by omega)
  have pw : IntKind.i64.wrap ((idx : Int) + (k : Int)) = (idx : Int) + (k : Int) := (IntKind.wrap_i64 _).trans (by omega)
  have q1 : (c = idx) = False := eq_false (by omega)
  have q2 : ((c : Int) = (idx : Int)) = False := eq_false (by omega)
  go_enter Tryd.func82, Tryd.ntmps82
  go_wp2
  go_region_held3 (fun w' => w'.cell? ⟨b, 0, none⟩ = some (.slice (some ⟨g, 0, none⟩) n c) ∧ w'.cell? ⟨b, 4, none⟩ = some (.int .i64 (idx : Int))) (first | exact ⟨c0, c4⟩) (first | fail)
  go_wp2
  go_region_held3 (fun w' => w'.cell? ⟨b, 0, none⟩ = some (.slice (some ⟨g, 0, none⟩) n c) ∧ w'.cell? ⟨b, 4, none⟩ = some (.int .i64 (idx : Int))) (first | exact ⟨c0, c4⟩) (first | fail)
  go_wp2
  go_ret2
  refine ⟨congrArg (fun m => Ending.returned (.tuple #[.slice (some ⟨g, idx, none⟩) m (c - idx), .nilIface])) (by omega), ?_, (grown_set (grown_refl w (some b))).drew.drew⟩
  have hp := HH.out.put (idx + k)
  rw [Int.natCast_add] at hp
  exact hp.bl (below_drew (below_drew (Below.refl _ _)))
set_option maxHeartbeats 4000000 in
set_option maxRecDepth 100000 in
theorem getByte_ok (w : World) (b g c : Nat) (l : List Int) (idx : Nat) (big : Bool) (chunk : Int) (h : Ses.RS w b g c l idx big chunk) (hk : idx < l.length) :
    Calls Tryd.prog 68 #[.pointer (some ⟨b, 0, none⟩)] w fun e w' => e = .returned (.tuple #[.int .u8 (l.getD idx 0), .nilIface]) ∧ Ses.RS w' b g c l (idx + 1) big chunk ∧ w.grownBy w' (some b) := by
  have hr := read_ok w b g c l idx 1 big chunk h (by omega) (by omega)
  rw [show ((1 : Nat) : Int) = 1 from rfl] at hr
  have HR := Lib.hid hr
  clear hr
  have HC := Lib.hid (fun W (hw : Ses.RS W b g c l (idx + 1) big chunk) => hw.cells idx hk)
  generalize l.getD idx 0 = x at *
  clear hk h
  go_enter Tryd.func68, Tryd.ntmps68
  go_wp2_with (go_at_call 82; (with_reducible refine HR.out.mono ?_); rintro e w1 ⟨rfl, hrs, hg⟩; have HRS := Lib.hid hrs; have HG := Lib.hid hg; have x0 := HC.out _ hrs; clear hrs hg)
  go_ret2
  exact ⟨rfl, HRS.out, HG.out⟩
set_option maxHeartbeats 4000000 in
set_option maxRecDepth 100000 in
theorem getBytes_ok (w : World) (b g c : Nat) (l : List Int) (idx k : Nat) (big : Bool) (chunk : Int) (h : Ses.RS w b g c l idx big chunk) (hk : idx + k ≤ l.length) (hk0 : 0 < k) :
    Calls Tryd.prog 69 #[.pointer (some ⟨b, 0, none⟩), .int .i64 k] w fun e w' => e = .returned (.tuple #[.slice (some ⟨g, idx, none⟩) k (c - idx), .nilIface]) ∧ Ses.RS w' b g c l (idx + k) big chunk ∧ w.grownBy w' (some b) := by
  have HR := Lib.hid (read_ok w b g c l idx k big chunk h hk hk0)
  go_enter Tryd.func69, Tryd.ntmps69
  go_wp2_with (go_at_call 82; (with_reducible refine HR.out.mono ?_); rintro e w1 ⟨rfl, hrs, hg⟩; have HRS := Lib.hid hrs; have HG := Lib.hid hg; clear hrs hg)
  go_ret2
  exact ⟨rfl, HRS.out, HG.out⟩
set_option maxHeartbeats 4000000 in
set_option maxRecDepth 100000 in
/-- A CLR that is none: its first byte is 0, 255 or 253. -/
theorem getClr_none (w : World) (b g c : Nat) (l : List Int) (idx : Nat) (big : Bool) (chunk : Int) (h : Ses.RS w b g c l idx big chunk) (hk : idx < l.length) (hz : l.getD idx 0 = 0 ∨ l.getD idx 0 = 255 ∨ l.getD idx 0 = 253) :
    Calls Tryd.prog 70 #[.pointer (some ⟨b, 0, none⟩)] w fun e w' => e = .returned (.tuple #[.slice none 0 0, .nilIface]) ∧ Ses.RS w' b g c l (idx + 1) big chunk ∧ w.grownBy w' (some b) := by
  have HR := Lib.hid (getByte_ok w b g c l idx big chunk h hk)
  generalize l.getD idx 0 = x at *
  rcases hz with rfl | rfl | rfl
  all_goals go_enter Tryd.func70, Tryd.ntmps70
  all_goals go_wp2_with (go_at_call 68; (with_reducible refine HR.out.mono ?_); rintro e w1 ⟨rfl, hrs, hg⟩; have HRS := Lib.hid hrs; have HG := Lib.hid hg; clear hrs hg)
  all_goals go_ret2
  all_goals exact ⟨rfl, HRS.out, HG.out⟩
set_option maxHeartbeats 4000000 in
set_option maxRecDepth 100000 in
/-- A fixed CLR that is none. -/
theorem getFixed_none (w : World) (b g c : Nat) (l : List Int) (idx : Nat) (big : Bool) (chunk : Int) (h : Ses.RS w b g c l idx big chunk) (hk : idx < l.length) (hz : l.getD idx 0 = 0 ∨ l.getD idx 0 = 255 ∨ l.getD idx 0 = 253) :
    Calls Tryd.prog 77 #[.pointer (some ⟨b, 0, none⟩)] w fun e w' => e = .returned (.tuple #[.slice none 0 0, .nilIface]) ∧ Ses.RS w' b g c l (idx + 1) big chunk ∧ w.grownBy w' (some b) := by
  have HR := Lib.hid (getByte_ok w b g c l idx big chunk h hk)
  generalize l.getD idx 0 = x at *
  rcases hz with rfl | rfl | rfl
  all_goals go_enter Tryd.func77, Tryd.ntmps77
  all_goals go_wp2_with (go_at_call 68; (with_reducible refine HR.out.mono ?_); rintro e w1 ⟨rfl, hrs, hg⟩; have HRS := Lib.hid hrs; have HG := Lib.hid hg; clear hrs hg)
  all_goals go_ret2
  all_goals exact ⟨rfl, HRS.out, HG.out⟩
end Go.Proofs.YtdnahdddkagfhaaDoor.X
