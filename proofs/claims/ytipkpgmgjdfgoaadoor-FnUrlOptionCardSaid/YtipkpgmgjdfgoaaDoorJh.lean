/- net.JoinHostPort: brackets where the host has a colon. -/
import Derived.Test.YtipkpgmgjdfgoaaDoorProg
import Derived.Test.YtipkpgmgjdfgoaaDoorKit
import Derived.Lib.Bytealg
import Derived.Laws.Externs
namespace Go.Proofs.YtipkpgmgjdfgoaaDoor.X
open Go.RowKit Go.Proofs.YtipkpgmgjdfgoaaDoorW.PrintWords Go.Proofs.YtipkpgmgjdfgoaaDoorW.PrintMore
set_option linter.unusedVariables false
set_option linter.unusedSimpArgs false
def net_JoinHostPort.f (a0 a1 : ByteArray) : Option ByteArray :=
  if a0.size ≤ 1099511627776 ∧ a1.size ≤ 1099511627776 then some (if 0 ≤ Lib.indexByte a0.data.toList 58 then ((⟨#[91]⟩ : ByteArray) ++ a0 ++ (⟨#[93, 58]⟩ : ByteArray)) ++ a1 else (a0 ++ (⟨#[58]⟩ : ByteArray)) ++ a1) else none
set_option maxHeartbeats 2000000 in
set_option maxRecDepth 100000 in
theorem net_JoinHostPort.calls (a0 a1 : ByteArray) (r : ByteArray) (w : World) (h : net_JoinHostPort.f a0 a1 = some r) :
    Calls Tryd.prog 59 #[.string a0, .string a1] w fun e w' => e = .returned (.string r) ∧ Drawn0 w w' := by
  unfold net_JoinHostPort.f at h
  split at h
  · rename_i hsz
    have hr := Lib.hid (Option.some.inj h)
    clear h
    have hix := Lib.hid (Lib.run_indexByteString (P := Tryd.prog) a0 58)
    rw [show ((58 : Int).toNat.toUInt8) = (58 : UInt8) from rfl] at hix
    generalize Lib.indexByte a0.data.toList 58 = ix at *
    go_enter Tryd.func59, Tryd.ntmps59
    go_wp2_with fail
    rw [run_callFunc_extern Tryd.func76 (by kernel_rfl) (by kernel_rfl) (by kernel_rfl) (e := Extern.BytealgIndexByte.indexByte) (by kernel_rfl), hix.out]
    simp only [Result.andThen]
    rw [Oper.upon_value]
    have hr' := hr.out
    by_cases h0 : 0 ≤ ix
    · rw [if_pos h0] at hr'
      go_wp2
      go_ret
      exact ⟨by rw [← hr']; rfl, Drawn0.refl _⟩
    · rw [if_neg h0] at hr'
      go_wp2
      go_ret
      exact ⟨by rw [← hr']; rfl, Drawn0.refl _⟩
  · cases h
end Go.Proofs.YtipkpgmgjdfgoaaDoor.X
