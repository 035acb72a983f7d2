/- impl.ConnectBytes. -/
import Derived.Test.YtpacjdlgnoiheaaDoorPc
import Derived.Test.YtpacjdlgnoiheaaDoorPu
namespace Go.Proofs.YtpacjdlgnoiheaaDoor.X
open Go Go.RowKit Go.Proofs.YtpacjdlgnoiheaaDoorW.PrintWords Go.Proofs.YtpacjdlgnoiheaaDoorW.PrintMore
attribute [local go_sem] setCell_drewN alloc_drewN
set_option linter.unusedVariables false
def Rng (a0 a1 a2 a3 a7 a8 : Int) : Prop := (0 ≤ a0 ∧ a0 ≤ 65535) ∧ (0 ≤ a1 ∧ a1 ≤ 65535) ∧ (0 ≤ a2 ∧ a2 ≤ 65535) ∧ (0 ≤ a3 ∧ a3 ≤ 65535) ∧ (0 ≤ a7 ∧ a7 ≤ 4294967295) ∧ (0 ≤ a8 ∧ a8 ≤ 4294967295)
instance (a0 a1 a2 a3 a7 a8 : Int) : Decidable (Rng a0 a1 a2 a3 a7 a8) := by unfold Rng; infer_instance
def connList (a0 a1 a2 a3 a4 a7 a8 : Int) (a9 : Bool) (s : ByteArray) : List Int := connHead (longOf a9 a0) (connLen s.size) a0 a1 a2 a3 a4 a7 a8 (bytesOf s).length ++ (if (bytesOf s).length ≤ 230 then bytesOf s else [])
def RetRowX (x : Nat) (l : List Int) (w : World) (e : Ending) (w' : World) : Prop := ∃ v : Value, e = .returned v ∧ Kd.R (Kd.int .u8) 5 w' w.heap.size (fun _ => True) v l ∧ w.grownBy w' (some x)
set_option maxHeartbeats 1000000 in
theorem netConnect (x : Nat) (a0 a1 a2 a3 a4 a5 a6 a7 a8 : Int) (a9 : Bool) (s : ByteArray) (w : World) (hb : w.heap[x]? = some (.cells (ctxCells s a0 a1 a2 a3 a4 a5 a6 a7 a8 a9) 91 (0, 0))) (hr : Rng a0 a1 a2 a3 a7 a8) (hn : s.size ≤ 2000) :
    Calls Tryd.prog 32 #[.pointer (some ⟨x, 0, none⟩)] w (RetRowX x (connList a0 a1 a2 a3 a4 a7 a8 a9 s) w) := by
  have hC : Hid (Calls Tryd.prog 42 #[.pointer (some ⟨x, 0, none⟩)] w (RetConn x (ctxCells s a0 a1 a2 a3 a4 a5 a6 a7 a8 a9) s w)) := Lib.hid (newConnect x _ s w hb rfl rfl hn)
  have hP : Hid (∀ g A c W, W.heap[g]? = some (.cells #[.int .u16 70, .int .u32 (connLen s.size), .int .u8 1, .int .u8 0, .pointer (some ⟨x, 0, none⟩), .slice A s.size c] 109 (0, 0)) → Kd.C (Kd.int .u8) W A s.size (bytesOf s) → W.heap[x]? = some (.cells (ctxMarked (ctxCells s a0 a1 a2 a3 a4 a5 a6 a7 a8 a9)) 91 (0, 0)) → Calls Tryd.prog 43 #[.pointer (some ⟨g, 0, none⟩)] W (RetRow (connList a0 a1 a2 a3 a4 a7 a8 a9 s) W)) :=
    Lib.hid fun g A c W h1 h2 h3 => by
      have q5 : W.cell? ⟨g, 5, none⟩ = some (.slice A (bytesOf s).length c) := by rw [bytesOf_length]; exact xb_cell h1 5
      have hC' : Kd.C (Kd.int .u8) W A (bytesOf s).length (bytesOf s) := by rw [bytesOf_length]; exact h2
      have hl : 0 ≤ connLen s.size ∧ connLen s.size ≤ 4294967295 := by unfold connLen; split <;> omega
      exact connectBytes g x (connLen s.size) a0 a1 a2 a3 a4 a7 a8 a9 A c (bytesOf s) W (xb_cell h1 1) (xb_cell h1 2) (xb_cell h1 3) (xb_cell h3 9) (xb_cell h1 0) (xb_cell h1 4) q5 (xb_cell h3 2) (xb_cell h3 3) (xb_cell h3 4) (xb_cell h3 6) (xb_cell h3 10) (xb_cell h3 11) (xb_cell h3 12) (xb_cell h3 13) hl.1 hl.2 hr.1 hr.2.1 hr.2.2.1 hr.2.2.2.1 hr.2.2.2.2.1 hr.2.2.2.2.2 (by rw [bytesOf_length]; exact hn) hC'
  generalize connList a0 a1 a2 a3 a4 a7 a8 a9 s = L at *
  generalize ctxCells s a0 a1 a2 a3 a4 a5 a6 a7 a8 a9 = cs at *
  clear hb hr
  go_enter Tryd.func32, Tryd.ntmps32
  go_wp2_with fail
  refine hC.out.mono ?_
  rintro e w1 ⟨g, A, c, rfl, h1, h2, h3, hg, hgr⟩
  have hP1 := Lib.hid (hP.out g A c w1 h1 h2 h3)
  have HG := Lib.hid hgr
  clear h1 h2 h3 hgr hP hC
  go_wp2_with fail
  refine hP1.out.mono ?_
  rintro e w2 ⟨v, rfl, hR, hB⟩
  have HR := Lib.hid hR
  have HB := Lib.hid hB
  clear hR hB hP1
  go_wp2
  go_ret
  exact ⟨v, rfl, Kd.R_lower HR.out HG.out.size, grown_bl HG.out HB.out⟩
def impl_ConnectBytes.f (a0 a1 a2 a3 a4 a5 a6 a7 a8 : Int) (a9 : Bool) (s : ByteArray) : Option (List Int) := if Rng a0 a1 a2 a3 a7 a8 ∧ s.size ≤ 2000 then some (connList a0 a1 a2 a3 a4 a7 a8 a9 s) else none
set_option maxHeartbeats 1000000 in
theorem implConnect (a0 a1 a2 a3 a4 a5 a6 a7 a8 : Int) (a9 : Bool) (s : ByteArray) (w : World) (hr : Rng a0 a1 a2 a3 a7 a8) (hn : s.size ≤ 2000) :
    Calls Tryd.prog 20 #[.agg #[.int .u16 a0, .int .u16 a1, .int .u16 a2, .int .u16 a3, .int .u16 a4, .int .u8 a5, .int .u8 a6, .int .u32 a7, .int .u32 a8, .bool a9], .string s] w (RetRow (connList a0 a1 a2 a3 a4 a7 a8 a9 s) w) := by
  have hN : Hid (∀ x W, W.heap[x]? = some (.cells (ctxCells s a0 a1 a2 a3 a4 a5 a6 a7 a8 a9) 91 (0, 0)) → Calls Tryd.prog 32 #[.pointer (some ⟨x, 0, none⟩)] W (RetRowX x (connList a0 a1 a2 a3 a4 a7 a8 a9 s) W)) := Lib.hid fun x W h => netConnect x a0 a1 a2 a3 a4 a5 a6 a7 a8 a9 s W h hr hn
  generalize connList a0 a1 a2 a3 a4 a7 a8 a9 s = L at *
  clear hr
  go_enter Tryd.func20, Tryd.ntmps20
  go_wp2_with fail
  refine (contextOf a0 a1 a2 a3 a4 a5 a6 a7 a8 a9 _).mono ?_
  rintro e w1 ⟨x, rfl, hb, hx, hB⟩
  have hxw : w.heap.size ≤ x := by simp at hx; omega
  have HB := Lib.hid (bl_trans ((Below.refl w.heap.size w).alloc (Nat.le_refl _) _) hB)
  have hCD : Hid (Calls Tryd.prog 31 #[.pointer (some ⟨x, 0, none⟩), .string s] w1 fun e w' => e = .returned (.tuple #[]) ∧ w' = w1.setCell ⟨x, 1, none⟩ (.string s)) := Lib.hid (connectData x _ s w1 hb rfl)
  have hNN : Hid (Calls Tryd.prog 32 #[.pointer (some ⟨x, 0, none⟩)] (w1.setCell ⟨x, 1, none⟩ (.string s)) (RetRowX x L (w1.setCell ⟨x, 1, none⟩ (.string s)))) := Lib.hid (hN.out x _ (xb_set hb 1 _))
  clear hb hB hN hx
  go_wp2_with fail
  refine hCD.out.mono ?_
  rintro e w2 ⟨rfl, rfl⟩
  go_wp2_with fail
  refine hNN.out.mono ?_
  rintro e w3 ⟨v, rfl, hR, hG⟩
  have HB2 := Lib.hid (HB.out.setCell (p := ⟨x, 1, none⟩) hxw (.string s))
  have HR := Lib.hid (Kd.R_lower hR HB2.out.size)
  have HB3 := Lib.hid (grown_below HB2.out hG HB2.out.size hxw)
  clear hR hG hCD hNN
  go_wp2
  go_ret
  exact ⟨v, rfl, HR.out, HB3.out⟩
theorem impl_ConnectBytes.calls (a0 a1 a2 a3 a4 a5 a6 a7 a8 : Int) (a9 : Bool) (s : ByteArray) (r : List Int) (w : World) (h : impl_ConnectBytes.f a0 a1 a2 a3 a4 a5 a6 a7 a8 a9 s = some r) :
    Calls Tryd.prog 20 #[.agg #[.int .u16 a0, .int .u16 a1, .int .u16 a2, .int .u16 a3, .int .u16 a4, .int .u8 a5, .int .u8 a6, .int .u32 a7, .int .u32 a8, .bool a9], .string s] w fun e w' => ∃ v0_ : Value, e = .returned (v0_) ∧ Kd.R (Kd.int .u8) 5 w' w.heap.size (fun _ => True) v0_ r ∧ Below w.heap.size w w' := by
  unfold impl_ConnectBytes.f at h
  split at h
  · rename_i hh
    obtain rfl := Option.some.inj h
    exact implConnect a0 a1 a2 a3 a4 a5 a6 a7 a8 a9 s w hh.1 hh.2
  · cases h
end Go.Proofs.YtpacjdlgnoiheaaDoor.X
