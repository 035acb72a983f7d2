/- strconv.FormatUint at base 10: the decimal digits of every uint64. -/
import Derived.Test.YtepooaejlofkkaaDoorTab
import Derived.Lib.ItoaMem
import Derived.Lib.Walk
namespace Go.Proofs.YtepooaejlofkkaaDoor.X
open Go.RowKit Go.Sort Go.Lib Go.Proofs.YtepooaejlofkkaaDoorW.PrintWords Go.Proofs.YtepooaejlofkkaaDoorW.PrintMore
set_option linter.unusedVariables false
set_option linter.unusedSimpArgs false

abbrev encB (b : UInt8) : Value := Value.int .u8 (b.toNat : Int)
theorem zeros_hold (w : World) (T : TypeId) (nd : Nat) (hs : nd ≤ 24) : Holds encB (w.alloc (.cells zeros24 T)) w.heap.size 0 (Array.replicate nd (0 : UInt8)) := fun j hj => by
  have hj' : j < nd := by simpa using hj
  refine ⟨?_, World.frozen?_alloc_new _ _ _ _⟩
  rw [World.cell?_alloc_new, zeros24_at _ (by omega), getElem!_pos _ j hj]
  simp
theorem row_new (w : World) (o : Obj) (dk : Array UInt8) (k : Nat) : ∃ os, (putRow encB (w.alloc o) w.heap.size 0 dk).drewN k = grow (w.drewN k) os := by
  rw [alloc_eq_grow]
  obtain ⟨os', _, e⟩ := putRow_grow_new encB w #[o] w.heap.size 0 dk (Nat.le_refl _)
  exact ⟨os', by rw [e]; rfl⟩
set_option maxHeartbeats 6400000 in
set_option maxRecDepth 100000 in
theorem formatUint_in (u : Nat) (hu64 : u < 18446744073709551616) (w : World) (htab : Tab w) :
    Calls Tryd.prog 55 #[.int .u64 u, .int .i64 10] w fun e w' => e = .returned (.string ⟨(Lib.decDigits u).toArray⟩) ∧ Below w.heap.size w w' := by
  by_cases hs : u < 100
  · have hss : (u : Int) < 100 := by omega
    go_enter Tryd.func55, Tryd.ntmps55
    go_wp2_with (go_at_call 59; refine (Tryd.internal_strconv_small u hs _).mono ?_; rintro e w' ⟨rfl, rfl⟩)
    go_ret
    exact ⟨rfl, Below.refl _ _⟩
  · have hss : ¬ (u : Int) < 100 := by omega
    have hu1 : 1 ≤ u := by omega
    have hnd : Lib.nDigits u ≤ 24 := by have := Lib.numDigits_eq u hu1 hu64; split at this <;> omega
    have hal : Tryd.prog.arrayLen 79 = 24 := by kernel_rfl
    have hsl : ∀ W, (Instr.sliceAt 79 (.pointer (some ⟨w.heap.size, 0, none⟩)) none (some (.int .i64 (Lib.nDigits u : Int))) none).run Tryd.prog W = .ok (.slice (some ⟨w.heap.size, 0, none⟩) (Lib.nDigits u) 24) W := fun W => by
      rw [run_sliceAt_array_h W 79 ⟨w.heap.size, 0, none⟩ (by kernel_rfl) .i64 (Lib.nDigits u : Int) (by omega) (by rw [hal]; omega)]
      go_simp
    have hH0 := zeros_hold w 79 (Lib.nDigits u) hnd
    have hfmt := Tryd.internal_strconv_formatBase10 w.heap.size 0 24 u (Array.replicate (Lib.nDigits u) 0) (w.alloc (.cells Lib.zeros24 79)) hH0 (by rw [Array.size_replicate]; exact Lib.lt_pow_nDigits u) hu64 (by rw [Array.size_replicate]; omega)
    rw [Array.size_replicate] at hfmt
    have HH0 := Lib.hid hH0
    have HT := Lib.hid htab
    clear hH0 hal htab
    go_enter Tryd.func55, Tryd.ntmps55
    go_wp2_with (go_at_call 60; refine (Tryd.internal_strconv_numDigits u hu1 hu64 _ (Lib.tabIs_alloc HT.out _)).mono ?_; rintro e w' ⟨rfl, rfl⟩)
    refine hfmt.mono ?_
    rintro e w' ⟨rfl, k, v', dk, rfl, hF⟩
    have hcv : (convert 22 9 (.slice (some ⟨w.heap.size, 0, none⟩) (Lib.nDigits u) 24)).run Tryd.prog ((putRow encB (w.alloc (.cells Lib.zeros24 79)) w.heap.size 0 dk).drewN k) = .ok (.string ⟨(Lib.decDigits u).toArray⟩) ((putRow encB (w.alloc (.cells Lib.zeros24 79)) w.heap.size 0 dk).drewN k) := by
      have h := run_convert_bytes_back (P := Tryd.prog) ((putRow encB (w.alloc (.cells Lib.zeros24 79)) w.heap.size 0 dk).drewN k) 22 9 5 ⟨w.heap.size, 0, none⟩ 24 (Lib.decDigits u) Tryd.underlying22 Tryd.underlying5 Tryd.underlying9 (fun j hj => by
        rw [Lib.row_is_numeral hF j hj, Lib.add_plain, World.cell?_drewN]
        exact cell?_putRow encB _ w.heap.size 0 _ dk HH0.out (by rw [hF.size, Array.size_replicate]) j (by rw [hF.size]; rw [Lib.decDigits_length] at hj; exact hj))
      rw [Lib.decDigits_length] at h
      exact h
    obtain ⟨os, eo⟩ := row_new w (.cells Lib.zeros24 79) dk k
    have hB : Below w.heap.size w ((putRow encB (w.alloc (.cells Lib.zeros24 79)) w.heap.size 0 dk).drewN k) := by rw [eo]; exact Lib.below_grow _ _ (Nat.le_refl _) _ _
    have HB := Lib.hid hB
    clear hF eo hB
    change (convert 22 9 (.slice (some ⟨w.heap.size, 0, none⟩) (Lib.nDigits u) 24)).run Tryd.prog ((putRow (fun (b : UInt8) => Value.int .u8 (b.toNat : Int)) (w.alloc (.cells Lib.zeros24 79)) w.heap.size 0 dk).drewN k) = .ok (.string ⟨(Lib.decDigits u).toArray⟩) ((putRow (fun (b : UInt8) => Value.int .u8 (b.toNat : Int)) (w.alloc (.cells Lib.zeros24 79)) w.heap.size 0 dk).drewN k) at hcv
    go_wp2
    go_ret
    exact ⟨rfl, HB.out⟩
def strconv_FormatUint.f (a0 a1 : Int) : Option ByteArray := if a1 = 10 then (if 0 ≤ a0 ∧ a0 ≤ 18446744073709551615 then some ⟨(Lib.decDigits a0.toNat).toArray⟩ else none) else none
set_option maxRecDepth 100000 in
theorem strconv_FormatUint.calls (a0 a1 : Int) (r : ByteArray) (w : World) (h : strconv_FormatUint.f a0 a1 = some r) (htab : Tab w) :
    Calls Tryd.prog 47 #[.int .u64 a0, .int .i64 a1] w fun e w' => e = .returned (.string r) ∧ Below w.heap.size w w' := by
  unfold strconv_FormatUint.f at h
  split at h
  · rename_i h1
    split at h
    · rename_i h2
      obtain rfl := Option.some.inj h
      subst h1
      obtain ⟨u, rfl⟩ := Int.eq_ofNat_of_zero_le h2.1
      have HF := Lib.hid (fun W (hT : Tab W) => formatUint_in u (by omega) W hT)
      have HT := Lib.hid htab
      clear htab h
      go_enter Tryd.func47, Tryd.ntmps47
      go_wp2_with fail
      refine (HF.out _ HT.out).mono ?_
      rintro e w' ⟨rfl, hB⟩
      have HB := Lib.hid hB
      clear hB
      go_wp2
      go_ret
      exact ⟨rfl, HB.out⟩
    · cases h
  · cases h
end Go.Proofs.YtepooaejlofkkaaDoor.X
