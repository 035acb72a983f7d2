/- The readers of a session where the input ends. -/
import Derived.Test.YtdnahdddkagfhaaDoorTz
namespace Go.Proofs.YtdnahdddkagfhaaDoor.X
open Go.RowKit Go.Proofs.YtdnahdddkagfhaaDoorW.PrintWords Go.Proofs.YtdnahdddkagfhaaDoorW.PrintMore
attribute [local go_sem] setCell_drewN alloc_drewN
set_option linter.unusedVariables false
set_option linter.unusedSimpArgs false
namespace Ses
/-- The error that says that the input has ended. -/
def EE (tp : TypeId) (a : Addr) (w : World) : Prop := w.cell? ⟨4, 0, none⟩ = some (.iface tp (.pointer (some a)))
theorem EE.bl {tp : TypeId} {a : Addr} {w w' : World} (h : EE tp a w) (k : Below w.heap.size w w') : EE tp a w' := bl_cell k h
theorem EE.ne {tp : TypeId} {a : Addr} {w : World} {b g c : Nat} {l : List Int} {idx : Nat} {big : Bool} {chunk : Int} (h : EE tp a w) (r : RS w b g c l idx big chunk) : b ≠ 4 := by
  rintro rfl
  have h0 := r.c0
  unfold EE at h
  rw [h] at h0
  exact absurd (Option.some.inj h0) (by simp)
theorem EE.grown {tp : TypeId} {a : Addr} {w w' : World} {b : Nat} (h : EE tp a w) (k : w.grownBy w' (some b)) (hb : b ≠ 4) : EE tp a w' := by
  have hl := World.block_lt_of_cell? w _ h
  unfold EE World.cell? at h ⊢
  rw [k.block _ hl (fun e => hb (Option.some.inj e).symm)]
  exact h
/-- What is left is a beginning of e, and not the whole. -/
def Cut (l : List Int) (idx : Nat) (e : List Int) : Prop := idx ≤ l.length ∧ ∃ more, more ≠ [] ∧ e = l.drop idx ++ more
theorem Cut.short {l : List Int} {idx : Nat} {e : List Int} (h : Cut l idx e) : l.length < idx + e.length := by
  obtain ⟨h0, more, hm, rfl⟩ := h
  have := List.length_pos_iff.2 hm
  rw [List.length_append, List.length_drop]
  omega
theorem Cut.cons {l : List Int} {idx : Nat} {x : Int} {e : List Int} (h : Cut l idx (x :: e)) : idx = l.length ∨ (idx < l.length ∧ l.getD idx 0 = x ∧ Cut l (idx + 1) e) := by
  obtain ⟨h0, more, hm, he⟩ := h
  by_cases hi : idx < l.length
  · rw [List.drop_eq_getElem_cons hi, List.cons_append] at he
    obtain ⟨h1, h2⟩ := List.cons.inj he
    exact .inr ⟨hi, by rw [List.getD_eq_getElem?_getD, List.getElem?_eq_getElem hi, h1]; rfl, hi, more, hm, h2⟩
  · exact .inl (by omega)
theorem Cut.app {l : List Int} {idx : Nat} {x y : List Int} (h : Cut l idx (x ++ y)) : Cut l idx x ∨ (Pre l idx x ∧ Cut l (idx + x.length) y) := by
  obtain ⟨h0, more, hm, he⟩ := h
  rcases List.append_eq_append_iff.1 he with ⟨z, h1, h2⟩ | ⟨z, h1, h2⟩
  · -- l.drop idx = x ++ z, y = z ++ more
    have hx : x.length ≤ l.length - idx := by
      have := congrArg List.length h1
      rw [List.length_drop, List.length_append] at this
      omega
    refine .inr ⟨⟨h0, z, h1⟩, by omega, more, hm, ?_⟩
    rw [← List.drop_drop, h1, List.drop_left]
    exact h2
  · -- x = l.drop idx ++ z, more = z ++ y
    by_cases hz : z = []
    · subst hz
      rw [List.append_nil] at h1
      rw [List.nil_append] at h2
      refine .inr ⟨⟨h0, [], by rw [List.append_nil]; exact h1.symm⟩, ?_, more, hm, ?_⟩
      · have := congrArg List.length h1
        rw [List.length_drop] at this
        omega
      · rw [← List.drop_drop, ← h1, List.drop_length, List.nil_append]
        exact h2.symm
    · exact .inl ⟨h0, z, hz, h1⟩
end Ses
set_option maxHeartbeats 4000000 in
set_option maxRecDepth 100000 in
theorem read_end (w : World) (b g c : Nat) (l : List Int) (idx : Nat) (big : Bool) (chunk : Int) (tp : TypeId) (a : Addr) (h : Ses.RS w b g c l idx big chunk) (hE : Ses.EE tp a w) (k : Nat) (hk : l.length < idx + k) (hkm : k ≤ 1000000000) (hidx : idx ≤ l.length) :
    Calls Tryd.prog 82 #[.pointer (some ⟨b, 0, none⟩), .int .i64 k] w fun e w' => e = .returned (.tuple #[.slice none 0 0, .iface tp (.pointer (some a))]) ∧ Ses.RS w' b g c l idx big chunk ∧ w.grownBy w' (some b) := by
  have HH := Lib.hid h
  have c0 := h.c0
  have c4 := h.c4
  have e0 : w.cell? ⟨4, 0, none⟩ = some (.iface tp (.pointer (some a))) := hE
  obtain ⟨hblk, hne, hcap, hcells, hmax, hlt⟩ := h
  clear hblk hcells hE
  generalize hn : l.length = n at *
  have p0 : (0 : Int) ≤ (idx : Int) := by omega
  have p4 : decide ((n : Int) < (idx : Int) + (k : Int)) = true := decide_eq_true (by omega)
  have p6 : (0 : Int) ≤ (idx : Int) + (k : Int) := by omega
  have pw : IntKind.i64.wrap ((idx : Int) + (k : Int)) = (idx : Int) + (k : Int) := (IntKind.wrap_i64 _).trans (by omega)
  go_enter Tryd.func82, Tryd.ntmps82
  go_wp2
  go_region_held3 (fun w' => w'.cell? ⟨b, 0, none⟩ = some (.slice (some ⟨g, 0, none⟩) n c) ∧ w'.cell? ⟨b, 4, none⟩ = some (.int .i64 (idx : Int))) (first | exact ⟨c0, c4⟩) (first | fail)
  go_wp2
  go_region_held3 (fun w' => w'.cell? ⟨4, 0, none⟩ = some (.iface tp (.pointer (some a)))) (first | exact e0) (first | fail)
  go_wp2
  go_ret2
  exact ⟨rfl, HH.out.bl (by repeat (first | exact bl_drewN _ _ | exact below_drew (below_drew (Below.refl _ _)))), grown_bl (grown_refl w _) (by repeat (first | exact bl_drewN _ _ | exact below_drew (below_drew (Below.refl _ _))))⟩
set_option maxHeartbeats 4000000 in
set_option maxRecDepth 100000 in
theorem getByte_end (w : World) (b g c : Nat) (l : List Int) (idx : Nat) (big : Bool) (chunk : Int) (tp : TypeId) (a : Addr) (h : Ses.RS w b g c l idx big chunk) (hE : Ses.EE tp a w) (hk : idx = l.length) :
    Calls Tryd.prog 68 #[.pointer (some ⟨b, 0, none⟩)] w fun e w' => e = .returned (.tuple #[.int .u8 0, .iface tp (.pointer (some a))]) ∧ Ses.RS w' b g c l idx big chunk ∧ w.grownBy w' (some b) := by
  have hr := read_end w b g c l idx big chunk tp a h hE 1 (by omega) (by omega) (by omega)
  rw [show ((1 : Nat) : Int) = 1 from rfl] at hr
  have HR := Lib.hid hr
  clear hr
  go_enter Tryd.func68, Tryd.ntmps68
  go_wp2_with (go_at_call 82; (with_reducible refine HR.out.mono ?_); rintro e w1 ⟨rfl, hrs, hg⟩; have HRS := Lib.hid hrs; have HG := Lib.hid hg; clear hrs hg)
  go_ret2
  exact ⟨rfl, HRS.out, HG.out⟩
set_option maxHeartbeats 4000000 in
set_option maxRecDepth 100000 in
theorem getBytes_end (w : World) (b g c : Nat) (l : List Int) (idx : Nat) (big : Bool) (chunk : Int) (tp : TypeId) (a : Addr) (h : Ses.RS w b g c l idx big chunk) (hE : Ses.EE tp a w) (k : Nat) (hk : l.length < idx + k) (hkm : k ≤ 1000000000) (hidx : idx ≤ l.length) :
    Calls Tryd.prog 69 #[.pointer (some ⟨b, 0, none⟩), .int .i64 k] w fun e w' => e = .returned (.tuple #[.slice none 0 0, .iface tp (.pointer (some a))]) ∧ Ses.RS w' b g c l idx big chunk ∧ w.grownBy w' (some b) := by
  have HR := Lib.hid (read_end w b g c l idx big chunk tp a h hE k hk hkm hidx)
  go_enter Tryd.func69, Tryd.ntmps69
  go_wp2_with (go_at_call 82; (with_reducible refine HR.out.mono ?_); rintro e w1 ⟨rfl, hrs, hg⟩; have HRS := Lib.hid hrs; have HG := Lib.hid hg; clear hrs hg)
  go_ret2
  exact ⟨rfl, HRS.out, HG.out⟩
end Go.Proofs.YtdnahdddkagfhaaDoor.X
