/- bytes.Compare and bytes.Equal: over slices that are read. -/
import Derived.Test.YtepooaejlofkkaaDoorCl
import Derived.Lib.Bytealg
import Derived.Lib.BytesEntry
import Derived.Laws.Externs
namespace Go.Proofs.YtepooaejlofkkaaDoor.X
open Go.RowKit Go.Proofs.YtepooaejlofkkaaDoorW.PrintWords Go.Proofs.YtepooaejlofkkaaDoorW.PrintLast Go.Proofs.YtepooaejlofkkaaDoorW.PrintMore
attribute [local go_sem] setCell_drewN alloc_drewN
set_option linter.unusedVariables false
set_option linter.unusedSimpArgs false

theorem run_bytesOf_C {P : Program} {w : World} {A : Option Addr} {l : List Int} (c : Nat) (h : Kd.C (Kd.int .u8) w A l.length l) :
    (Extern.Bytes.bytesOf (.slice A l.length c)).run P w = .ok ⟨(Lib.bytesOf l).toArray⟩ w := by
  by_cases hn : 0 < l.length
  · obtain ⟨g, o, rfl, _, hc⟩ := C_base h hn
    have hl := Lib.run_loadBytesX (P := P) w l ⟨g, o, none⟩ .empty (fun j x hj => by
      have hjl := (List.getElem?_eq_some_iff.1 hj).1
      have e : (⟨g, o, none⟩ : Addr).add j = ⟨g, o + j, none⟩ := by
        unfold Addr.add
        split
        · rename_i h0; have : j = 0 := by simpa using h0
          subst this; rfl
        · rfl
      rw [e, hc j hjl, List.getD_eq_getElem?_getD, hj]
      rfl)
    have he : (⟨ByteArray.empty.data ++ (Lib.bytesOf l).toArray⟩ : ByteArray) = ⟨(Lib.bytesOf l).toArray⟩ := by
      apply ByteArray.ext
      show (#[] : Array UInt8) ++ (Lib.bytesOf l).toArray = (Lib.bytesOf l).toArray
      simp
    rw [he] at hl
    exact hl
  · have hz : l = [] := List.eq_nil_of_length_eq_zero (by omega)
    subst hz
    cases A <;> rfl
theorem run_compare_C {P : Program} {w : World} {A B : Option Addr} {l m : List Int} (c d : Nat) (h : Kd.C (Kd.int .u8) w A l.length l) (k : Kd.C (Kd.int .u8) w B m.length m) :
    (Extern.BytealgCompare.compare #[.slice A l.length c, .slice B m.length d]).run P w = .ok (.int .i64 (Lib.compareBytes (Lib.bytesOf l) (Lib.bytesOf m))) w := by
  change Sem.run P (do pure (goInt (Extern.BytealgCompare.cmp (← Extern.Bytes.bytesOf (.slice A l.length c)) (← Extern.Bytes.bytesOf (.slice B m.length d))))) w = _
  have h1 := run_bytesOf_C (P := P) c h
  have h2 := run_bytesOf_C (P := P) d k
  simp only [Sem.run_bind, Sem.run_pure, Result.andThen, h1, h2]
  rw [Lib.cmp_eq]
  rfl

def bytes_Compare.f (l0 l1 : List Int) : Option Int := some (Lib.compareBytes (Lib.bytesOf l0) (Lib.bytesOf l1))
set_option maxHeartbeats 2000000 in
set_option maxRecDepth 100000 in
theorem bytes_Compare.calls (A0 : Option Addr) (c0 : Nat) (l0 : List Int) (A1 : Option Addr) (c1 : Nat) (l1 : List Int) (r : Int) (w : World) (hr0 : Kd.C (Kd.int .u8) w A0 l0.length l0) (hc0 : l0.length ≤ c0) (hr1 : Kd.C (Kd.int .u8) w A1 l1.length l1) (hc1 : l1.length ≤ c1) (h : bytes_Compare.f l0 l1 = some r) :
    Calls Tryd.prog 18 #[.slice A0 l0.length c0, .slice A1 l1.length c1] w fun e w' => e = .returned (.int .i64 r) ∧ Drawn0 w w' := by
  obtain rfl := Option.some.inj h
  have hcmp := Lib.hid (run_compare_C (P := Tryd.prog) c0 c1 hr0 hr1)
  clear hr0 hc0 hr1 hc1 h
  go_enter Tryd.func18, Tryd.ntmps18
  go_wp2
  rw [run_callFunc_extern Tryd.func34 (by kernel_rfl) (by kernel_rfl) (by kernel_rfl) (e := Extern.BytealgCompare.compare) (by kernel_rfl), hcmp.out]
  simp only [Result.andThen]
  rw [Oper.upon_value]
  go_wp2
  go_ret
  exact ⟨rfl, Drawn0.refl _⟩

def bytes_Equal.f (l0 : List Int) (l1 : List Int) : Option (Bool) := some ((strOfNums l0).toList == (strOfNums l1).toList)
set_option maxHeartbeats 8000000 in
set_option maxRecDepth 100000 in
theorem bytes_Equal.calls (A0 : Option Addr) (c0 : Nat) (l0 : List Int) (A1 : Option Addr) (c1 : Nat) (l1 : List Int) (r : Bool) (w : World) (hr0 : Kd.C (Kd.int .u8) w A0 l0.length l0) (hc0 : l0.length ≤ c0) (hr1 : Kd.C (Kd.int .u8) w A1 l1.length l1) (hc1 : l1.length ≤ c1) (h : bytes_Equal.f l0 l1 = some r) :
    Calls Tryd.prog 23 #[.slice A0 l0.length c0, .slice A1 l1.length c1] w fun e w' => e = .returned (.bool r) ∧ Drawn0 w w' := by
  have HR0 := Aside0.mk hr0
  clear hr0 hc0
  have HR1 := Aside0.mk hr1
  clear hr1 hc1
  obtain rfl := Option.some.inj h
  clear h
  have hcv3 := Kd.C_string (P := Tryd.prog) (A := A0) (c := c0) Tryd.underlying22 Tryd.underlying5 Tryd.underlying9 HR0.out
  have hcv4 := Kd.C_string (P := Tryd.prog) (A := A1) (c := c1) Tryd.underlying22 Tryd.underlying5 Tryd.underlying9 HR1.out
  go_enter Tryd.func23, Tryd.ntmps23
  go_wp2
  go_ret
  exact ⟨by first | rfl | (simp; done) | (simp [*]; done), by repeat (first | exact Drawn0.refl _ | apply Drawn0.step)⟩
end Go.Proofs.YtepooaejlofkkaaDoor.X
