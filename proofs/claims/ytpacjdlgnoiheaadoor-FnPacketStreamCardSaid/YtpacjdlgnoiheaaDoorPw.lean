/- bytes.Equal (as the kit's print writes it), and packetAwake. -/
import Derived.Test.YtpacjdlgnoiheaaDoorPg
import Derived.Test.YtpacjdlgnoiheaaDoorPm
import Derived.Lib.SlBytesConst
import Derived.Lib.SmallJoins
namespace Go.Proofs.YtpacjdlgnoiheaaDoor.X
open Go.RowKit Go.Proofs.YtpacjdlgnoiheaaDoorW.PrintWords Go.Proofs.YtpacjdlgnoiheaaDoorW.PrintLast Go.Proofs.YtpacjdlgnoiheaaDoorW.PrintMore
set_option linter.unusedVariables false
set_option linter.unusedSimpArgs false

def bytes_Equal.f (l0 : List Int) (l1 : List Int) : Option (Bool) := some ((strOfNums l0).toList == (strOfNums l1).toList)
set_option maxHeartbeats 8000000 in
set_option maxRecDepth 100000 in
theorem bytes_Equal.calls (A0 : Option Addr) (c0 : Nat) (l0 : List Int) (A1 : Option Addr) (c1 : Nat) (l1 : List Int) (r : Bool) (w : World) (hr0 : Kd.C (Kd.int .u8) w A0 l0.length l0) (hc0 : l0.length ≤ c0) (hr1 : Kd.C (Kd.int .u8) w A1 l1.length l1) (hc1 : l1.length ≤ c1) (h : bytes_Equal.f l0 l1 = some r) :
    Calls Tryd.prog 15 #[.slice A0 l0.length c0, .slice A1 l1.length c1] w fun e w' => e = .returned (.bool r) ∧ Drawn0 w w' := by
  have HR0 := Aside0.mk hr0
  have HC0 := Aside0.mk hc0
  clear hr0 hc0
  have HR1 := Aside0.mk hr1
  have HC1 := Aside0.mk hc1
  clear hr1 hc1
  have H : (some ((strOfNums l0).toList == (strOfNums l1).toList)) = some r := h
  clear h
  obtain rfl := Option.some.inj H
  have hcv3 := Kd.C_string (P := Tryd.prog) (A := A0) (c := c0) Tryd.underlying24 Tryd.underlying5 Tryd.underlying9 HR0.out
  have hcv4 := Kd.C_string (P := Tryd.prog) (A := A1) (c := c1) Tryd.underlying24 Tryd.underlying5 Tryd.underlying9 HR1.out
  go_enter Tryd.func15, Tryd.ntmps15
  go_wp2
  go_ret
  exact ⟨by first | rfl | (simp; done) | (simp [*]; done), by repeat (first | exact Drawn0.refl _ | apply Drawn0.step)⟩

def laws_packetAwake.f : Option Bool := some true
set_option maxHeartbeats 1000000 in
theorem laws_packetAwake.calls (r : Bool) (w : World) (h : laws_packetAwake.f = some r) :
    Calls Tryd.prog 9 #[] w fun e w' => e = .returned (.bool r) ∧ Below w.heap.size w w' := by
  obtain rfl := Option.some.inj h
  clear h
  have hu34 := Tryd.underlying34
  have kc := fun (w : World) (C : Array Value) (n c : Nat) => Lib.run_convert_bytes_const (P := Tryd.prog) w 24 5 C n c Tryd.underlying24 Tryd.underlying5
  have hD : Hid (Calls Tryd.prog 19 #[.agg #[.int .u16 0, .int .u16 0, .int .u16 0, .int .u16 0, .int .u16 0, .int .u8 0, .int .u8 0, .int .u32 0, .int .u32 0, .bool false], .slice (some ⟨w.heap.size, 0, none⟩) 2 2] (w.alloc (.cells #[.int .u8 97, .int .u8 98] 5 (2, 2 + 1))) (RetRow [0, 12, 0, 0, 6, 0, 0, 0, 0, 0, 97, 98] (w.alloc (.cells #[.int .u8 97, .int .u8 98] 5 (2, 2 + 1))))) :=
    Lib.hid (implDataBytes 0 0 0 0 0 0 0 0 0 false (some ⟨w.heap.size, 0, none⟩) 2 [97, 98] _ (C_of (by simp) fun i hi => by
      have hh := xb_cell (xb_new w (.cells #[.int .u8 97, .int .u8 98] 5 (2, 2 + 1)))
      rw [hh]
      match i, hi with
      | 0, _ => rfl
      | 1, _ => rfl
      | n + 2, hi => exact absurd hi (by simp)) (by simp) (by simp))
  go_enter Tryd.func9, Tryd.ntmps9
  go_wp2_with fail
  refine hD.out.mono ?_
  rintro e w1 ⟨v, rfl, hR, hB⟩
  have hB1 := bl_trans ((Below.refl w.heap.size w).alloc (Nat.le_refl _) _) hB
  obtain ⟨A, c, rfl, hle, hC⟩ := Kd.R_reads hR
  have hE : Hid (Calls Tryd.prog 15 #[.slice A 12 c, .slice (some ⟨w1.heap.size, 0, none⟩) 12 12] (w1.alloc (.cells #[.int .u8 0, .int .u8 12, .int .u8 0, .int .u8 0, .int .u8 6, .int .u8 0, .int .u8 0, .int .u8 0, .int .u8 0, .int .u8 0, .int .u8 97, .int .u8 98] 5)) fun e w' => e = .returned (.bool true) ∧ Drawn0 (w1.alloc (.cells #[.int .u8 0, .int .u8 12, .int .u8 0, .int .u8 0, .int .u8 6, .int .u8 0, .int .u8 0, .int .u8 0, .int .u8 0, .int .u8 0, .int .u8 97, .int .u8 98] 5)) w') := by
    refine Lib.hid (bytes_Equal.calls A c [0, 12, 0, 0, 6, 0, 0, 0, 0, 0, 97, 98] _ 12 [0, 12, 0, 0, 6, 0, 0, 0, 0, 0, 97, 98] true _ (Kd.C_alloc hC _) hle ?_ (by simp) (by simp [bytes_Equal.f]))
    obtain ⟨A', c', he, hle', hC'⟩ := Kd.R_reads (row_lit w1 [0, 12, 0, 0, 6, 0, 0, 0, 0, 0, 97, 98] (by simp))
    injection he with h1 h2 h3
    subst h1
    exact hC'
  have HB1 := Lib.hid hB1
  clear hR hB hB1 hC hD kc
  go_wp2_with fail
  refine hE.out.mono ?_
  rintro e w2 ⟨rfl, ⟨n, rfl⟩⟩
  go_wp2
  go_ret
  exact ⟨rfl, bl_trans (bl_trans HB1.out ((Below.refl w1.heap.size w1).alloc (Nat.le_refl _) _)) (bl_drewN _ _)⟩
end Go.Proofs.YtpacjdlgnoiheaaDoor.X
