/- impl.NumberUint64 over the printed NumberToUInt64; and what the base ZN has printed, under the names that a further print looks up. -/
import Derived.Test.YtepooaejlofkkaaDoorZU4
import Derived.Deep.QuietTactic
import Derived.Test.YtepooaejlofkkaaDoorZN
namespace Go.Proofs.YtepooaejlofkkaaDoor.X
open Go.RowKit Go.Proofs.YtepooaejlofkkaaDoor.ZU Go.Proofs.YtepooaejlofkkaaDoorW.PrintWords Go.Proofs.YtepooaejlofkkaaDoorW.PrintLast Go.Proofs.YtepooaejlofkkaaDoorW.PrintMore
attribute [local go_sem] setCell_drewN alloc_drewN
set_option linter.unusedVariables false
set_option linter.unusedSimpArgs false
set_option maxHeartbeats 2000000 in
set_option maxRecDepth 100000 in
theorem newNumber (A : Option Addr) (n c : Nat) (w : World) :
    Calls Tryd.prog 39 #[.slice A n c] w fun e w' => e = .returned (.pointer (some ⟨w.heap.size, 0, none⟩)) ∧ Below w.heap.size w w' ∧ w'.cell? ⟨w.heap.size, 0, none⟩ = some (.slice A n c) := by
  go_enter Tryd.func39, Tryd.ntmps39
  go_wp2
  go_ret
  exact ⟨rfl, (Below.refl _ _).alloc (Nat.le_refl _) _, by rw [xb_cell (xb_new _ _)]; rfl⟩
set_option maxHeartbeats 2000000 in
set_option maxRecDepth 100000 in
theorem number_UInt64 (k g : Nat) (A : Option Addr) (c : Nat) (l : List Int) (r : Int) (w : World) (hg : w.cell? ⟨g, 0, none⟩ = some (.slice A l.length c)) (hC : Kd.C (Kd.int .u8) w A l.length l) (hc : l.length ≤ c) (h : converters_NumberToUInt64.f k l = some (r, none)) :
    Calls Tryd.prog 40 #[.pointer (some ⟨g, 0, none⟩)] w fun e w' => e = .returned (.tuple #[.int .u64 r, errW none]) ∧ Below w.heap.size w w' := by
  have HN := Lib.hid (converters_NumberToUInt64.calls k A c l r none w hC hc h)
  clear hC h
  go_enter Tryd.func40, Tryd.ntmps40
  go_wp2_with fail
  refine HN.out.mono ?_
  rintro e w' ⟨rfl, hB⟩
  have HB := Lib.hid hB
  clear hB
  go_wp2
  go_ret2
  exact ⟨rfl, HB.out⟩
def impl_NumberUint64.f (k : Nat) (l0 : List Int) : Option (Int × Bool) := (bytes_Clone.f l0).bind fun c => (converters_NumberToUInt64.f k c).bind fun r => if r.2 = none then some (r.1, true) else none
theorem impl_NumberUint64.mono : ∀ a0 k, LeO (impl_NumberUint64.f k a0) (impl_NumberUint64.f (k + 1) a0) := by
  intro a0 k r h
  unfold impl_NumberUint64.f at h ⊢
  obtain ⟨c, h1, h⟩ := Option.bind_eq_some_iff.1 h
  obtain ⟨q, h2, h⟩ := Option.bind_eq_some_iff.1 h
  rw [h1]
  simp only [Option.bind_some]
  rw [converters_NumberToUInt64.mono c k q h2]
  exact h
set_option maxHeartbeats 2000000 in
set_option maxRecDepth 100000 in
theorem impl_NumberUint64.calls (k : Nat) (A0 : Option Addr) (c0 : Nat) (l0 : List Int) (r1 : Int) (r2 : Bool) (w : World) (hr0 : Kd.C (Kd.int .u8) w A0 l0.length l0) (hc0 : l0.length ≤ c0) (h : impl_NumberUint64.f k l0 = some (r1, r2)) :
    Calls Tryd.prog 29 #[.slice A0 l0.length c0] w fun e w' => e = .returned (.tuple #[.int .u64 r1, .bool r2]) ∧ Below w.heap.size w w' := by
  unfold impl_NumberUint64.f at h
  obtain ⟨l, h1, h⟩ := Option.bind_eq_some_iff.1 h
  obtain ⟨⟨q, e⟩, h2, h⟩ := Option.bind_eq_some_iff.1 h
  have he : e = none ∧ q = r1 ∧ true = r2 := by
    by_cases he : e = none
    · rw [if_pos he] at h
      have := Option.some.inj h
      simp only [Prod.mk.injEq] at this
      exact ⟨he, this⟩
    · rw [if_neg he] at h; cases h
  obtain ⟨rfl, rfl, rfl⟩ := he
  have HC := Lib.hid (bytes_Clone.calls A0 c0 l0 l w hr0 hc0 h1)
  have H2 := Lib.hid h2
  clear h h2 h1 hr0 hc0
  go_enter Tryd.func29, Tryd.ntmps29
  go_wp2_with fail
  refine HC.out.mono ?_
  rintro e w1 ⟨v, rfl, hR, hB⟩
  obtain ⟨A, c, rfl, hle, hC⟩ := Kd.R_reads hR
  have HB := Lib.hid hB
  have HC1 := Lib.hid hC
  clear hR hB hC HC
  go_wp2_with fail
  refine (newNumber A l.length c w1).mono ?_
  rintro e w2 ⟨rfl, hB2, hg⟩
  have HB2 := Lib.hid (bl_trans HB.out hB2)
  have HC2 := Lib.hid (Kd.C_below HC1.out hB2)
  have HG := Lib.hid hg
  clear hB2 hg
  go_wp2_with fail
  refine (number_UInt64 k w1.heap.size A c l q w2 HG.out HC2.out hle H2.out).mono ?_
  rintro e w3 ⟨rfl, hB3⟩
  have HB3 := Lib.hid (bl_trans HB2.out hB3)
  clear hB3
  simp only [errW]
  go_wp2
  go_quiet (skip)
  go_simp
  go_wp2
  go_ret2
  exact ⟨rfl, bl_trans HB3.out (bl_drewN _ _)⟩
end Go.Proofs.YtepooaejlofkkaaDoor.X

namespace Go.Proofs.YtepooaejlofkkaaDoor.X
open Go.RowKit Go.Proofs.YtepooaejlofkkaaDoorW.PrintWords Go.Proofs.YtepooaejlofkkaaDoorW.PrintMore
abbrev spec_NumberDigits.f (k : Nat) (a0 : Int) : Option (List Int × Int) := ZN.spec_NumberDigits.f k a0
theorem spec_NumberDigits.mono : ∀ a0 k, LeO (spec_NumberDigits.f k a0) (spec_NumberDigits.f (k + 1) a0) := ZN.spec_NumberDigits.mono
theorem spec_NumberDigits.calls (k : Nat) (a0 : Int) (r1 : List Int) (r2 : Int) (w : World) (h : spec_NumberDigits.f k a0 = some (r1, r2)) :
    Calls Tryd.prog 20 #[.int .u64 a0] w fun e w' => ∃ v0_ : Value, e = .returned (.tuple #[v0_, .int .i64 r2]) ∧ Kd.R (Kd.int .u8) 5 w' w.heap.size (fun _ => True) v0_ r1 ∧ Below w.heap.size w w' := ZN.spec_NumberDigits.calls k a0 r1 r2 w h
abbrev spec_NumberBytes.f (k : Nat) (l0 : List Int) (a1 : Bool) (a2 : Int) : Option (List Int) := ZN.spec_NumberBytes.f k l0 a1 a2
theorem spec_NumberBytes.mono : ∀ a0 a1 a2 k, LeO (spec_NumberBytes.f k a0 a1 a2) (spec_NumberBytes.f (k + 1) a0 a1 a2) := ZN.spec_NumberBytes.mono
theorem spec_NumberBytes.calls (k : Nat) (A0 : Option Addr) (c0 : Nat) (l0 : List Int) (a1 : Bool) (a2 : Int) (r : List Int) (w : World) (hr0 : Kd.C (Kd.int .u8) w A0 l0.length l0) (hc0 : l0.length ≤ c0) (h : spec_NumberBytes.f k l0 a1 a2 = some r) :
    Calls Tryd.prog 17 #[.slice A0 l0.length c0, .bool a1, .int .i64 a2] w fun e w' => ∃ v0_ : Value, e = .returned (v0_) ∧ Kd.R (Kd.int .u8) 5 w' w.heap.size (fun _ => True) v0_ r ∧ Below w.heap.size w w' := ZN.spec_NumberBytes.calls k A0 c0 l0 a1 a2 r w hr0 hc0 h
abbrev laws_numberAwake.f (k : Nat) : Option Bool := ZN.laws_numberAwake.f k
theorem laws_numberAwake.mono : ∀ k, LeO (laws_numberAwake.f k) (laws_numberAwake.f (k + 1)) := ZN.laws_numberAwake.mono
theorem laws_numberAwake.calls (k : Nat) (r : Bool) (w : World) (h : laws_numberAwake.f k = some r) (htab : Tab w) :
    Calls Tryd.prog 12 #[] w fun e w' => e = .returned (.bool r) ∧ Below w.heap.size w w' := ZN.laws_numberAwake.calls k r w h htab
end Go.Proofs.YtepooaejlofkkaaDoor.X
