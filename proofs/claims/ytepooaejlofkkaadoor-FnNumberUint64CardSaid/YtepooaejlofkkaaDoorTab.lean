/- The table of the library's that a row lists, as a word on worlds: it holds in all that is made behind it; and strconv.FormatInt at base 10. -/
import Derived.Test.YtepooaejlofkkaaDoorShelf
import Derived.Test.YtepooaejlofkkaaDoorCl
import Derived.Lib.LaidTab
import Derived.Lib.AppendIntMem
import Derived.Lib.SmallJoins
namespace Go.Proofs.YtepooaejlofkkaaDoor.X
open Go.RowKit Go.Proofs.YtepooaejlofkkaaDoorW.PrintWords Go.Proofs.YtepooaejlofkkaaDoorW.PrintMore

/-- The powers of ten are what the library's text lays. -/
def Tab (w : World) : Prop := Lib.TabIs Tryd.prog w "internal/strconv.uint64pow10" .u64 Lib.pow10Tab
theorem tab_all {w : World} (h : Tab w) : ∀ W, Below w.heap.size w W → Tab W := fun W hb => (Lib.tabBelow_of_tabIs h) W hb

def strconv_FormatInt.f (a0 a1 : Int) : Option ByteArray := if a1 = 10 then (if -9223372036854775808 ≤ a0 ∧ a0 ≤ 9223372036854775807 then some ⟨(Lib.itoa a0).toArray⟩ else none) else none
theorem strconv_FormatInt.calls (a0 a1 : Int) (r : ByteArray) (w : World) (h : strconv_FormatInt.f a0 a1 = some r) (htab : Tab w) :
    Calls Tryd.prog 41 #[.int .i64 a0, .int .i64 a1] w fun e w' => e = .returned (.string r) ∧ Below w.heap.size w w' := by
  unfold strconv_FormatInt.f at h
  split at h
  · rename_i h1
    split at h
    · rename_i h2
      obtain rfl := Option.some.inj h
      subst h1
      refine (Tryd.strconv_FormatInt_10 a0 h2.1 h2.2 w htab).mono ?_
      rintro e w' ⟨rfl, k, os, rfl⟩
      exact ⟨rfl, Lib.below_grow _ _ (Nat.le_refl _) _ _⟩
    · cases h
  · cases h
end Go.Proofs.YtepooaejlofkkaaDoor.X
