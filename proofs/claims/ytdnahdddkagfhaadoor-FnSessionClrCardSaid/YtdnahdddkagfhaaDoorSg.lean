/- A session that is made, and the input that is left. -/
import Derived.Test.YtdnahdddkagfhaaDoorGn
namespace Go.Proofs.YtdnahdddkagfhaaDoor.X
open Go.RowKit Go.Proofs.YtdnahdddkagfhaaDoorW.PrintWords Go.Proofs.YtdnahdddkagfhaaDoorW.PrintMore
attribute [local go_sem] setCell_drewN alloc_drewN
set_option linter.unusedVariables false
set_option linter.unusedSimpArgs false
set_option maxHeartbeats 1000000 in
set_option maxRecDepth 100000 in
theorem newSession (v : Value) (w : World) (hv : ∃ A n c, v = .slice A n c) : Calls Tryd.prog 39 #[v] w fun e w' => e = .returned (.pointer (some ⟨w.heap.size, 0, none⟩)) ∧ w' = w.alloc (.cells #[v, .slice none 0 0, .int .i64 0, .int .i8 0, .int .i64 0, .bool false, .int .i64 64] 82) := by
  obtain ⟨A, n, c, rfl⟩ := hv
  go_enter Tryd.func39, Tryd.ntmps39
  go_wp2
  go_ret
  exact ⟨rfl, rfl⟩
set_option maxHeartbeats 2000000 in
set_option maxRecDepth 100000 in
/-- What is left of the input. -/
theorem rest_ok (w : World) (b g c : Nat) (l : List Int) (idx : Nat) (big : Bool) (chunk : Int) (h : Ses.RS w b g c l idx big chunk) (hk : idx ≤ l.length) :
    Calls Tryd.prog 49 #[.pointer (some ⟨b, 0, none⟩)] w fun e w' => e = .returned (.slice (if c = idx then some ⟨g, 0, none⟩ else some ⟨g, idx, none⟩) (l.length - idx) (c - idx)) ∧ w' = w.drew := by
  have c0 := h.c0
  have c4 := h.c4
  obtain ⟨hblk, hne, hcap, hcells, hmax, hlt⟩ := h
  clear hblk hcells
  generalize l.length = n at *
  have p0 : (0 : Int) ≤ (idx : Int) := by omega
  have p2 : (idx : Int) ≤ (n : Int) := by omega
  have p7 : (idx : Int) ≤ (c : Int) := by omega
  have p8 : (n : Int) ≤ (c : Int) := by omega
  by_cases q : c = idx
  · rw [if_pos q]
    subst q
    obtain rfl : c = n := by omega
    go_enter Tryd.func49, Tryd.ntmps49
    go_wp2
    go_region_held3 (fun w' => w'.cell? ⟨b, 0, none⟩ = some (.slice (some ⟨g, 0, none⟩) c c) ∧ w'.cell? ⟨b, 4, none⟩ = some (.int .i64 (c : Int))) (first | exact ⟨c0, c4⟩) (first | fail)
    go_wp2
    go_ret
    exact ⟨by rw [Nat.sub_self]; rfl, rfl⟩
  · rw [if_neg q]
    have q1 : (c = idx) = False := eq_false q
    go_enter Tryd.func49, Tryd.ntmps49
    go_wp2
    go_region_held3 (fun w' => w'.cell? ⟨b, 0, none⟩ = some (.slice (some ⟨g, 0, none⟩) n c) ∧ w'.cell? ⟨b, 4, none⟩ = some (.int .i64 (idx : Int))) (first | exact ⟨c0, c4⟩) (first | fail)
    go_wp2
    go_ret
    trivial
end Go.Proofs.YtdnahdddkagfhaaDoor.X
