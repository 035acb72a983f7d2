/- binary.BigEndian.Uint32: what each call returns. -/
import Derived.Test.YtinggdcfhlbahaaDoorProg
import Derived.Test.YtinggdcfhlbahaaDoorCl
namespace Go.Proofs.YtinggdcfhlbahaaDoor.X
open Go.RowKit Go.Proofs.YtinggdcfhlbahaaDoorW.PrintWords Go.Proofs.YtinggdcfhlbahaaDoorW.PrintMore
attribute [local go_sem] setCell_drewN alloc_drewN
set_option linter.unusedVariables false
set_option maxHeartbeats 400000 in
theorem be32 (A : Option Addr) (n c : Nat) (l : List Int) (w : World) (hr : Kd.C (Kd.int .u8) w A n l) (hn : 4 ≤ n) (hb : Byt l) :
    Calls Tryd.prog 14 #[.agg #[], .slice A n c] w (Ret (.int .u32 (((l.getD 0 0 * 256 + l.getD 1 0) * 256 + l.getD 2 0) * 256 + l.getD 3 0)) w) := by
  obtain ⟨g, o, rfl, hg, hc⟩ := C_base hr (by omega)
  have c0 := hc 0 (by omega)
  rw [Nat.add_zero] at c0
  have c1 := hc 1 (by omega)
  have c2 := hc 2 (by omega)
  have c3 := hc 3 (by omega)
  obtain ⟨h00, h01⟩ := hb.get 0
  obtain ⟨h10, h11⟩ := hb.get 1
  obtain ⟨h20, h21⟩ := hb.get 2
  obtain ⟨h30, h31⟩ := hb.get 3
  clear hc hr hb
  generalize l.getD 0 0 = x at *
  generalize l.getD 1 0 = y at *
  generalize l.getD 2 0 = z at *
  generalize l.getD 3 0 = u at *
  have i0 : 0 < n := by omega
  have i1 : (1 : Int) < (n : Int) := by omega
  have i2 : (2 : Int) < (n : Int) := by omega
  have i3 : (3 : Int) < (n : Int) := by omega
  go_enter Tryd.func14, Tryd.ntmps14
  go_wp2
  go_quiet (fail)
  go_wp2
  go_ret
  refine ⟨ret_eq ?_, bl_trans ((Below.refl _ _).alloc (Nat.le_refl _) _) (bl_drewN _ _)⟩
  show Value.int .u32 (bits .or .u32 (bits .or .u32 (bits .or .u32 u (z * 256)) (y * 65536)) (x * 16777216)) = _
  rw [u32_or8 u (z * 256) (by omega) (by omega) (by omega) (by omega) (by omega), u32_or16 (u + z * 256) (y * 65536) (by omega) (by omega) (by omega) (by omega) (by omega), u32_or24 (u + z * 256 + y * 65536) (x * 16777216) (by omega) (by omega) (by omega) (by omega) (by omega)]
  congr 1
  omega
def be4 (l : List Int) : Int := ((l.getD 0 0 * 256 + l.getD 1 0) * 256 + l.getD 2 0) * 256 + l.getD 3 0
def binary_bigEndian_Uint32.f (l : List Int) : Option Int := if 4 ≤ l.length then (if Byt l then some (be4 l) else none) else none
theorem binary_bigEndian_Uint32.calls (A0 : Option Addr) (c0 : Nat) (l0 : List Int) (r : Int) (w : World) (hr0 : Kd.C (Kd.int .u8) w A0 l0.length l0) (hc0 : l0.length ≤ c0) (h : binary_bigEndian_Uint32.f l0 = some r) :
    Calls Tryd.prog 14 #[.agg #[], .slice A0 l0.length c0] w fun e w' => e = .returned (.int .u32 r) ∧ Below w.heap.size w w' := by
  unfold binary_bigEndian_Uint32.f at h
  split at h
  · split at h
    · obtain rfl := Option.some.inj h
      exact be32 A0 _ c0 l0 w hr0 ‹_› ‹_›
    · cases h
  · cases h
end Go.Proofs.YtinggdcfhlbahaaDoor.X
