/- newConnectPacket, and impl.ConnectBytes over (*ConnectPacket).bytes. -/
import Derived.Test.YtpacjdlgnoiheaaDoorPf
import Derived.Lib.ConvBytes
namespace Go.Proofs.YtpacjdlgnoiheaaDoor.X
open Go Go.RowKit Go.Proofs.YtpacjdlgnoiheaaDoorW.PrintWords Go.Proofs.YtpacjdlgnoiheaaDoorW.PrintMore
attribute [local go_sem] setCell_drewN alloc_drewN
set_option linter.unusedVariables false
def connLen (n : Nat) : Int := if n > 230 then 70 else (n : Int) + 70
def ctxMarked (cs : Array Value) : Array Value := ((cs.setIfInBounds 7 (.int .u16 1)).setIfInBounds 10 (.int .u8 1)).setIfInBounds 11 (.int .u8 1)
def RetConn (x : Nat) (cs : Array Value) (s : ByteArray) (w : World) (e : Ending) (w' : World) : Prop :=
  ∃ g A c, e = .returned (.pointer (some ⟨g, 0, none⟩)) ∧ w'.heap[g]? = some (.cells #[.int .u16 70, .int .u32 (connLen s.size), .int .u8 1, .int .u8 0, .pointer (some ⟨x, 0, none⟩), .slice A s.size c] 109 (0, 0)) ∧ Kd.C (Kd.int .u8) w' A s.size (bytesOf s) ∧ w'.heap[x]? = some (.cells (ctxMarked cs) 91 (0, 0)) ∧ w.heap.size ≤ g ∧ w.grownBy w' (some x)
theorem conn_fin (x : Nat) (cs : Array Value) (s : ByteArray) (len : Int) (w : World) (hb : w.heap[x]? = some (.cells cs 91 (0, 0))) (hn : s.size ≤ 2000) (hl : connLen s.size = len) (c : Nat) :
    RetConn x cs s w (.returned (.pointer (some ⟨(Lib.bytesWorld (((w.setCell ⟨x, 7, none⟩ (.int .u16 1)).setCell ⟨x, 10, none⟩ (.int .u8 1)).setCell ⟨x, 11, none⟩ (.int .u8 1)) 5 s).heap.size, 0, none⟩)))
      ((Lib.bytesWorld (((w.setCell ⟨x, 7, none⟩ (.int .u16 1)).setCell ⟨x, 10, none⟩ (.int .u8 1)).setCell ⟨x, 11, none⟩ (.int .u8 1)) 5 s).alloc
        (.cells #[.int .u16 70, .int .u32 len, .int .u8 1, .int .u8 0, .pointer (some ⟨x, 0, none⟩), .slice (some ⟨w.heap.size, 0, none⟩) s.size c] 109)) := by
  subst hl
  have hx := xb_lt hb
  have hb3 := xb_set (xb_set (xb_set hb 7 (.int .u16 1)) 10 (.int .u8 1)) 11 (.int .u8 1)
  have hz : (((w.setCell ⟨x, 7, none⟩ (.int .u16 1)).setCell ⟨x, 10, none⟩ (.int .u8 1)).setCell ⟨x, 11, none⟩ (.int .u8 1)).heap.size = w.heap.size := by simp
  have hg3 : w.grownBy (((w.setCell ⟨x, 7, none⟩ (.int .u16 1)).setCell ⟨x, 10, none⟩ (.int .u8 1)).setCell ⟨x, 11, none⟩ (.int .u8 1)) (some x) := grown_set (grown_set (grown_set (grown_refl _ _)))
  generalize ((w.setCell ⟨x, 7, none⟩ (.int .u16 1)).setCell ⟨x, 10, none⟩ (.int .u8 1)).setCell ⟨x, 11, none⟩ (.int .u8 1) = w3 at *
  have hB4 : Below w3.heap.size w3 (Lib.bytesWorld w3 5 s) := bytes_below (Below.refl _ _) (Nat.le_refl _) 5 s
  have hC4 := Kd.C_of_reads (d := (0 : Int)) (h1 := fun _ => rfl) (bytes_reads w3 5 s (by omega))
  rw [hz] at hC4
  refine ⟨_, _, _, rfl, xb_new _ _, Kd.C_alloc hC4 _, xb_alloc (blk_bl hb3 hB4 (xb_lt hb3)), by have := hB4.size; omega, grown_alloc (grown_bl hg3 hB4) _⟩
set_option maxHeartbeats 1000000 in
theorem newConnect (x : Nat) (cs : Array Value) (s : ByteArray) (w : World) (hb : w.heap[x]? = some (.cells cs 91 (0, 0))) (h1 : cs[1]? = some (.string s)) (hs : cs.size = 18) (hn : s.size ≤ 2000) :
    Calls Tryd.prog 42 #[.pointer (some ⟨x, 0, none⟩)] w (RetConn x cs s w) := by
  have hx := xb_lt hb
  have c1 := (xb_cell hb 1).trans h1
  obtain ⟨y7, e7⟩ : ∃ y, cs[7]? = some y := ⟨_, Array.getElem?_eq_getElem (by omega)⟩
  obtain ⟨y10, e10⟩ : ∃ y, cs[10]? = some y := ⟨_, Array.getElem?_eq_getElem (by omega)⟩
  obtain ⟨y11, e11⟩ : ∃ y, cs[11]? = some y := ⟨_, Array.getElem?_eq_getElem (by omega)⟩
  have d7 := (xb_cell hb 7).trans e7
  have d10 := (xb_cell hb 10).trans e10
  have d11 := (xb_cell hb 11).trans e11
  have f7 := blk_free hb 7
  have f10 := blk_free hb 10
  have f11 := blk_free hb 11
  have hw : IntKind.u32.wrap (s.size : Int) = (s.size : Int) := u32_wrap_id _ (by omega) (by omega)
  have hw2 : IntKind.u32.wrap ((s.size : Int) + 70) = (s.size : Int) + 70 := u32_wrap_id _ (by omega) (by omega)
  have kc := fun (W : World) => Lib.run_convert_string_bytes (P := Tryd.prog) W 9 24 5 s Tryd.underlying9 Tryd.underlying24 Tryd.underlying5
  have HB := Lib.hid hb
  clear hb h1 e7 e10 e11
  rcases (show (s.size > 230 ∧ connLen s.size = 70) ∨ (s.size ≤ 230 ∧ connLen s.size = (s.size : Int) + 70) by
    by_cases h : s.size > 230
    · exact .inl ⟨h, by simp [connLen, h]⟩
    · exact .inr ⟨by omega, by simp [connLen, h]⟩) with ⟨h, hl⟩ | ⟨h, hl⟩
  · have t : decide ((s.size : Int) > 230) = true := by simp; omega
    have HL := Lib.hid hl
    clear h hl
    go_enter Tryd.func42, Tryd.ntmps42
    go_wp2
    go_ret
    exact conn_fin x cs s _ w HB.out hn HL.out _
  · have t : decide ((s.size : Int) > 230) = false := by simp; omega
    have HL := Lib.hid hl
    clear h hl
    go_enter Tryd.func42, Tryd.ntmps42
    go_wp2
    go_ret
    exact conn_fin x cs s _ w HB.out hn HL.out _
set_option maxHeartbeats 400000 in
theorem connectData (x : Nat) (cs : Array Value) (s : ByteArray) (w : World) (hb : w.heap[x]? = some (.cells cs 91 (0, 0))) (hs : cs.size = 18) :
    Calls Tryd.prog 31 #[.pointer (some ⟨x, 0, none⟩), .string s] w fun e w' => e = .returned (.tuple #[]) ∧ w' = w.setCell ⟨x, 1, none⟩ (.string s) := by
  obtain ⟨y1, e1⟩ : ∃ y, cs[1]? = some y := ⟨_, Array.getElem?_eq_getElem (by omega)⟩
  have d1 := (xb_cell hb 1).trans e1
  have f1 := blk_free hb 1
  clear hb e1
  go_enter Tryd.func31, Tryd.ntmps31
  go_wp2
  go_end0
  exact ⟨rfl, rfl⟩
end Go.Proofs.YtpacjdlgnoiheaaDoor.X
