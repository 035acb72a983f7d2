/- Of the library: strings.ToUpper at ASCII text, strconv.Itoa over the table of powers of ten, which a row lists. -/
import Derived.Test.YtipkpgmgjdfgoaaDoorShelf
import Derived.Test.YtipkpgmgjdfgoaaDoorKit
import Derived.Lib.LaidTab
import Derived.Lib.AppendIntMem
import Derived.Lib.SmallJoins
namespace Go.Proofs.YtipkpgmgjdfgoaaDoor.X
open Go.RowKit Go.Proofs.YtipkpgmgjdfgoaaDoorW.PrintWords Go.Proofs.YtipkpgmgjdfgoaaDoorW.PrintMore
set_option linter.unusedVariables false

/-- The powers of ten are what the library's text lays. -/
def Tab (w : World) : Prop := Lib.TabIs Tryd.prog w "internal/strconv.uint64pow10" .u64 Lib.pow10Tab
theorem tab_all {w : World} (h : Tab w) : ∀ W, Below w.heap.size w W → Tab W := fun W hb => (Lib.tabBelow_of_tabIs h) W hb

def strconv_Itoa.f (a0 : Int) : Option ByteArray := if -9223372036854775808 ≤ a0 ∧ a0 ≤ 9223372036854775807 then some ⟨(Lib.itoa a0).toArray⟩ else none
theorem strconv_Itoa.calls (a0 : Int) (r : ByteArray) (w : World) (h : strconv_Itoa.f a0 = some r) (htab : Tab w) :
    Calls Tryd.prog 49 #[.int .i64 a0] w fun e w' => e = .returned (.string r) ∧ Below w.heap.size w w' := by
  unfold strconv_Itoa.f at h
  split at h
  · rename_i h2
    obtain rfl := Option.some.inj h
    refine (Tryd.strconv_Itoa a0 h2.1 h2.2 w htab).mono ?_
    rintro e w' ⟨rfl, k, os, rfl⟩
    exact ⟨rfl, Lib.below_grow _ _ (Nat.le_refl _) _ _⟩
  · cases h
def strings_ToUpper.f (a0 : ByteArray) : Option ByteArray := if a0.size ≤ 1099511627776 then (if ∀ x ∈ a0.data.toList, x.toNat < 128 then some ⟨(Lib.toUpperA a0.data.toList).toArray⟩ else none) else none
theorem strings_ToUpper.calls (a0 : ByteArray) (r : ByteArray) (w : World) (h : strings_ToUpper.f a0 = some r) :
    Calls Tryd.prog 58 #[.string a0] w fun e w' => e = .returned (.string r) ∧ Below w.heap.size w w' := by
  unfold strings_ToUpper.f at h
  split at h
  · rename_i h1
    split at h
    · rename_i h2
      obtain rfl := Option.some.inj h
      exact Tryd.strings_ToUpper_ascii a0 w (by omega) (fun j b hb => h2 b (List.mem_of_getElem? hb))
    · cases h
  · cases h
end Go.Proofs.YtipkpgmgjdfgoaaDoor.X
