/- newDataPacket, and impl.DataBytes. -/
import Derived.Test.YtpacjdlgnoiheaaDoorPf
namespace Go.Proofs.YtpacjdlgnoiheaaDoor.X
open Go.RowKit Go.Proofs.YtpacjdlgnoiheaaDoorW.PrintWords Go.Proofs.YtpacjdlgnoiheaaDoorW.PrintMore
attribute [local go_sem] setCell_drewN alloc_drewN
set_option linter.unusedVariables false

def RetBlkE (T : TypeId) (cs : Array Value) (w : World) (e : Ending) (w' : World) : Prop := ∃ g, e = .returned (.tuple #[.pointer (some ⟨g, 0, none⟩), .nilIface]) ∧ w'.heap[g]? = some (.cells cs T (0, 0)) ∧ w.heap.size ≤ g ∧ Below w.heap.size w w'
def RetRowE (l : List Int) (w : World) (e : Ending) (w' : World) : Prop := ∃ v : Value, e = .returned (.tuple #[v, .nilIface]) ∧ Kd.R (Kd.int .u8) 5 w' w.heap.size (fun _ => True) v l ∧ Below w.heap.size w w'
set_option maxHeartbeats 400000 in
theorem newData (A : Option Addr) (n c x : Nat) (w : World) (hn : n ≤ 4000000000) : Calls Tryd.prog 40 #[.slice A n c, .pointer (some ⟨x, 0, none⟩)] w (RetBlkE 72 #[.int .u16 10, .int .u32 ((n : Int) + 10), .int .u8 6, .int .u8 0, .pointer (some ⟨x, 0, none⟩), .int .u16 0, .slice A n c] w) := by
  have e1 : IntKind.u32.wrap (n : Int) = (n : Int) := u32_wrap_id _ (by omega) (by omega)
  have e2 : IntKind.u32.wrap ((n : Int) + 10) = (n : Int) + 10 := u32_wrap_id _ (by omega) (by omega)
  go_enter Tryd.func40, Tryd.ntmps40
  go_wp2
  go_ret2
  exact ⟨_, rfl, xb_new _ _, Nat.le_refl _, (Below.refl _ _).alloc (Nat.le_refl _) _⟩
set_option maxHeartbeats 400000 in
theorem netDataBytes (x : Nat) (ver : Int) (cpl : Bool) (A : Option Addr) (c : Nat) (p : List Int) (w : World) (x9 : w.cell? ⟨x, 9, none⟩ = some (.bool cpl)) (x2 : w.cell? ⟨x, 2, none⟩ = some (.int .u16 ver))
    (hC : Kd.C (Kd.int .u8) w A p.length p) (hp : p.length ≤ 4000000000) :
    Calls Tryd.prog 30 #[.pointer (some ⟨x, 0, none⟩), .slice A p.length c] w (RetRowE (dataHead (longOf cpl ver) ((p.length : Int) + 10) ++ p) w) := by
  have HC := Lib.hid hC
  have hM : Hid (∀ g W, Below w.heap.size w W → W.heap[g]? = some (.cells #[.int .u16 10, .int .u32 ((p.length : Int) + 10), .int .u8 6, .int .u8 0, .pointer (some ⟨x, 0, none⟩), .int .u16 0, .slice A p.length c] 72 (0, 0)) → Calls Tryd.prog 41 #[.pointer (some ⟨g, 0, none⟩)] W (RetRow (dataHead (longOf cpl ver) ((p.length : Int) + 10) ++ p) W)) :=
    Lib.hid fun g W hW hb => dataPacketBytes g x _ ver cpl A c p W (xb_cell hb 0) (xb_cell hb 1) (xb_cell hb 2) (xb_cell hb 3) (xb_cell hb 4) (xb_cell hb 5) (xb_cell hb 6) (bl_cell hW x9) (bl_cell hW x2) (by omega) (by omega) (Kd.C_below hC hW) (by omega)
  have hN : Hid (Calls Tryd.prog 40 #[.slice A p.length c, .pointer (some ⟨x, 0, none⟩)] w (RetBlkE 72 #[.int .u16 10, .int .u32 ((p.length : Int) + 10), .int .u8 6, .int .u8 0, .pointer (some ⟨x, 0, none⟩), .int .u16 0, .slice A p.length c] w)) := Lib.hid (newData A p.length c x w hp)
  generalize dataHead (longOf cpl ver) ((p.length : Int) + 10) ++ p = l at *
  clear hC
  go_enter Tryd.func30, Tryd.ntmps30
  go_wp2_with fail
  refine hN.out.mono ?_
  rintro e w1 ⟨g, rfl, hb, hg, hB⟩
  have HM : Hid (Calls Tryd.prog 41 #[.pointer (some ⟨g, 0, none⟩)] w1 (RetRow l w1)) := Lib.hid (hM.out g w1 hB hb)
  have HB := Lib.hid hB
  clear hb hB hM hN HC x9 x2
  go_wp2_with fail
  refine HM.out.mono ?_
  rintro e w2 ⟨v, rfl, hR, hB2⟩
  have HR := Lib.hid hR
  have HB2 := Lib.hid hB2
  clear hR hB2 HM
  go_wp2
  go_ret2
  exact ⟨v, rfl, Kd.R_lower HR.out HB.out.size, bl_trans HB.out HB2.out⟩
def impl_DataBytes.f (a0 a1 a2 a3 a4 a5 a6 a7 a8 : Int) (a9 : Bool) (l : List Int) : Option (List Int) := if l.length ≤ 4000000000 then some (dataHead (a9 && decide (a0 ≥ 315)) ((l.length : Int) + 10) ++ l) else none
set_option maxHeartbeats 400000 in
theorem implDataBytes (a0 a1 a2 a3 a4 a5 a6 a7 a8 : Int) (a9 : Bool) (A1 : Option Addr) (c1 : Nat) (l1 : List Int) (w : World) (hr1 : Kd.C (Kd.int .u8) w A1 l1.length l1) (hc1 : l1.length ≤ c1) (hl : l1.length ≤ 4000000000) :
    Calls Tryd.prog 19 #[.agg #[.int .u16 a0, .int .u16 a1, .int .u16 a2, .int .u16 a3, .int .u16 a4, .int .u8 a5, .int .u8 a6, .int .u32 a7, .int .u32 a8, .bool a9], .slice A1 l1.length c1] w (RetRow (dataHead (a9 && decide (a0 ≥ 315)) ((l1.length : Int) + 10) ++ l1) w) := by
  have CL : Hid (∀ W, Below w.heap.size w W → Calls Tryd.prog 12 #[.slice A1 l1.length c1] W (RetRow l1 W)) := Lib.hid fun W hW => bytes_Clone.calls A1 c1 l1 l1 W (Kd.C_below hr1 hW) hc1 (by unfold bytes_Clone.f; rw [if_pos (by omega)])
  have hM : Hid (∀ x v W, Kd.R (Kd.int .u8) 5 W 0 (fun _ => True) v l1 → W.cell? ⟨x, 9, none⟩ = some (.bool a9) → W.cell? ⟨x, 2, none⟩ = some (.int .u16 a0) → Calls Tryd.prog 30 #[.pointer (some ⟨x, 0, none⟩), v] W (RetRowE (dataHead (a9 && decide (a0 ≥ 315)) ((l1.length : Int) + 10) ++ l1) W)) :=
    Lib.hid fun x v W hv x9 x2 => by
      obtain ⟨A, c, rfl, hle, hC⟩ := Kd.R_reads hv
      exact netDataBytes x a0 a9 A c l1 W x9 x2 hC hl
  generalize dataHead (a9 && decide (a0 ≥ 315)) ((l1.length : Int) + 10) ++ l1 = l at *
  clear hr1
  go_enter Tryd.func19, Tryd.ntmps19
  go_wp2_with fail
  refine (contextOf a0 a1 a2 a3 a4 a5 a6 a7 a8 a9 _).mono ?_
  rintro e w1 ⟨x, rfl, hb, hx, hB⟩
  have HB := Lib.hid (bl_trans ((Below.refl w.heap.size w).alloc (Nat.le_refl _) _) hB)
  have Hb := Lib.hid hb
  clear hb hB
  go_wp2_with fail
  refine (CL.out _ HB.out).mono ?_
  rintro e w2 ⟨v, rfl, hR, hB⟩
  have hb2 := blk_bl Hb.out hB (xb_lt Hb.out)
  have HM : Hid (Calls Tryd.prog 30 #[.pointer (some ⟨x, 0, none⟩), v] w2 (RetRowE l w2)) := Lib.hid (hM.out x v w2 (Kd.R_lower hR (Nat.zero_le _)) (xb_cell hb2 9) (xb_cell hb2 2))
  have HB2 := Lib.hid (bl_trans HB.out hB)
  clear hR hB hb2 hM CL Hb HB
  go_wp2_with fail
  refine HM.out.mono ?_
  rintro e w3 ⟨v3, rfl, hR3, hB3⟩
  have HR := Lib.hid hR3
  have HB3 := Lib.hid hB3
  clear hR3 hB3 HM
  go_wp2
  go_ret
  exact ⟨v3, rfl, Kd.R_lower HR.out HB2.out.size, bl_trans HB2.out HB3.out⟩
theorem impl_DataBytes.calls (a0 a1 a2 a3 a4 a5 a6 a7 a8 : Int) (a9 : Bool) (A1 : Option Addr) (c1 : Nat) (l1 : List Int) (r : List Int) (w : World) (hr1 : Kd.C (Kd.int .u8) w A1 l1.length l1) (hc1 : l1.length ≤ c1) (h : impl_DataBytes.f a0 a1 a2 a3 a4 a5 a6 a7 a8 a9 l1 = some r) :
    Calls Tryd.prog 19 #[.agg #[.int .u16 a0, .int .u16 a1, .int .u16 a2, .int .u16 a3, .int .u16 a4, .int .u8 a5, .int .u8 a6, .int .u32 a7, .int .u32 a8, .bool a9], .slice A1 l1.length c1] w fun e w' => ∃ v0_ : Value, e = .returned (v0_) ∧ Kd.R (Kd.int .u8) 5 w' w.heap.size (fun _ => True) v0_ r ∧ Below w.heap.size w w' := by
  unfold impl_DataBytes.f at h
  split at h
  · rename_i hl
    obtain rfl := Option.some.inj h
    exact implDataBytes a0 a1 a2 a3 a4 a5 a6 a7 a8 a9 A1 c1 l1 w hr1 hc1 hl
  · cases h
end Go.Proofs.YtpacjdlgnoiheaaDoor.X
