-- Written by a program of this session (wip/xprint.py), which calls the kit's print.
import Derived.Test.YtdnahdddkagfhaaDoorZM0
import Derived.Test.YtdnahdddkagfhaaDoorTb
namespace Go.Proofs.YtdnahdddkagfhaaDoor.ZM
open Go.RowKit Go.Proofs.YtdnahdddkagfhaaDoor.X Go.Proofs.YtdnahdddkagfhaaDoorW.PrintWords Go.Proofs.YtdnahdddkagfhaaDoorW.PrintLast Go.Proofs.YtdnahdddkagfhaaDoorW.PrintMore
attribute [local go_sem] max2_int min2_int max_two min_two max_three min_three max_four min_four   -- for this text's walks alone
set_option linter.unusedVariables false
set_option linter.unusedSimpArgs false

-- GIVEN: function 14 (laws_sessionLive)

-- NOT PRINTED: function 17 (bytes_Clone)

/-- A state of type 82 at block g of W; what its slices lead to came in by w0. -/
def IsS82 (w0 W : World) (g : Nat) (f0 : List Int) (f1 : List Int) (f2 : Int) (f3 : Int) (f4 : Int) (f5 : Bool) (f6 : Int) : Prop := ∃ A0 c0, ∃ A1 c1, W.heap[g]? = some (.cells #[.slice A0 f0.length c0, .slice A1 f1.length c1, .int .i64 f2, .int .i8 f3, .int .i64 f4, .bool f5, .int .i64 f6] 82 (0, 0)) ∧ w0.heap.size ≤ g ∧ Kd.C (Kd.int .u8) w0 A0 f0.length f0 ∧ Kd.C (Kd.int .u8) w0 A1 f1.length f1
theorem IsS82.grown {w0 W : World} {g : Nat} {f0 : List Int} {f1 : List Int} {f2 : Int} {f3 : Int} {f4 : Int} {f5 : Bool} {f6 : Int} {W1 : World} {row : Option Nat} (h : IsS82 w0 W g f0 f1 f2 f3 f4 f5 f6) (hw : W.grownBy W1 row) (hne : some g ≠ row) : IsS82 w0 W1 g f0 f1 f2 f3 f4 f5 f6 := by
  obtain ⟨A0, c0, A1, c1, hb, hg, hr0, hr1⟩ := h
  exact ⟨A0, c0, A1, c1, blk_grown hb hw hne, hg, hr0, hr1⟩
theorem IsS82.own_neN {w0 W : World} {g : Nat} {f0 : List Int} {f1 : List Int} {f2 : Int} {f3 : Int} {f4 : Int} {f5 : Bool} {f6 : Int} {α : Type} {d : Kd α} {e : Nat} {base : Nat} {ok : Nat → Prop} {v : Value} {xs : List α} (h : IsS82 w0 W g f0 f1 f2 f3 f4 f5 f6) (ho : Kd.N d e W base ok v xs) (ht : e ≠ 82) : some g ≠ v.ownBlock := by
  obtain ⟨A0, c0, A1, c1, hb, hg, hr0, hr1⟩ := h
  exact Kd.N_ne ho hb ht
theorem IsS82.fresh {w0 W : World} {g : Nat} {f0 : List Int} {f1 : List Int} {f2 : Int} {f3 : Int} {f4 : Int} {f5 : Bool} {f6 : Int} (h : IsS82 w0 W g f0 f1 f2 f3 f4 f5 f6) : ∀ k, W.heap.size ≤ k → k ≠ g := by
  obtain ⟨A0, c0, A1, c1, hb, hg, hr0, hr1⟩ := h
  exact Kd.freshB hb
theorem IsS82.kept {w0 W : World} {g : Nat} {f0 : List Int} {f1 : List Int} {f2 : Int} {f3 : Int} {f4 : Int} {f5 : Bool} {f6 : Int} {W1 : World} {S : Nat → Prop} (h : IsS82 w0 W g f0 f1 f2 f3 f4 f5 f6) (hk : Kept W W1 S) (hne : ¬ S g) : IsS82 w0 W1 g f0 f1 f2 f3 f4 f5 f6 := by
  obtain ⟨A0, c0, A1, c1, hb, hg, hr0, hr1⟩ := h
  exact ⟨A0, c0, A1, c1, blk_kept hb hk hne, hg, hr0, hr1⟩
theorem IsS82.below {w0 W : World} {g : Nat} {f0 : List Int} {f1 : List Int} {f2 : Int} {f3 : Int} {f4 : Int} {f5 : Bool} {f6 : Int} {W1 : World} (h : IsS82 w0 W g f0 f1 f2 f3 f4 f5 f6) (hw : Below W.heap.size W W1) : IsS82 w0 W1 g f0 f1 f2 f3 f4 f5 f6 := h.grown (grown_of_below hw none) (by simp)
theorem IsS82.alloc {w0 W : World} {g : Nat} {f0 : List Int} {f1 : List Int} {f2 : Int} {f3 : Int} {f4 : Int} {f5 : Bool} {f6 : Int} (h : IsS82 w0 W g f0 f1 f2 f3 f4 f5 f6) (o : Obj) : IsS82 w0 (W.alloc o) g f0 f1 f2 f3 f4 f5 f6 := h.below (below_alloc (Below.refl _ _) o)
theorem IsS82.drewN {w0 W : World} {g : Nat} {f0 : List Int} {f1 : List Int} {f2 : Int} {f3 : Int} {f4 : Int} {f5 : Bool} {f6 : Int} (h : IsS82 w0 W g f0 f1 f2 f3 f4 f5 f6) (m : Nat) : IsS82 w0 (W.drewN m) g f0 f1 f2 f3 f4 f5 f6 := h
theorem IsS82.drew {w0 W : World} {g : Nat} {f0 : List Int} {f1 : List Int} {f2 : Int} {f3 : Int} {f4 : Int} {f5 : Bool} {f6 : Int} (h : IsS82 w0 W g f0 f1 f2 f3 f4 f5 f6) : IsS82 w0 W.drew g f0 f1 f2 f3 f4 f5 f6 := h
theorem IsS82.at_ {w0 W : World} {g : Nat} {f0 : List Int} {f1 : List Int} {f2 : Int} {f3 : Int} {f4 : Int} {f5 : Bool} {f6 : Int} {w' : World} {m : Nat} (hq : W.drewN m = w') (h : IsS82 w0 W g f0 f1 f2 f3 f4 f5 f6) : IsS82 w0 w' g f0 f1 f2 f3 f4 f5 f6 := by subst hq; exact IsS82.drewN h m
theorem IsS82.apart {w0 W : World} {g : Nat} {f0 : List Int} {f1 : List Int} {f2 : Int} {f3 : Int} {f4 : Int} {f5 : Bool} {f6 : Int} {α : Type} {d : Kd α} {e : Nat} {base : Nat} {ok : Nat → Prop} {v : Value} {xs : List α} (h : IsS82 w0 W g f0 f1 f2 f3 f4 f5 f6) (ho : d.R e W base ok v xs) (ht : ∀ q, q ∈ e :: d.E → q ≠ 82) : d.R e W base (fun k => ok k ∧ k ≠ g) v xs := by
  obtain ⟨A0, c0, A1, c1, hb, hg, hr0, hr1⟩ := h
  exact Kd.R_types ho hb ht
theorem IsS82.own_ne {w0 W : World} {g : Nat} {f0 : List Int} {f1 : List Int} {f2 : Int} {f3 : Int} {f4 : Int} {f5 : Bool} {f6 : Int} {α : Type} {d : Kd α} {e : Nat} {base : Nat} {ok : Nat → Prop} {v : Value} {xs : List α} (h : IsS82 w0 W g f0 f1 f2 f3 f4 f5 f6) (ho : d.R e W base ok v xs) (ht : e ≠ 82) : some g ≠ v.ownBlock := by
  obtain ⟨A0, c0, A1, c1, hb, hg, hr0, hr1⟩ := h
  exact Kd.R_ne ho hb ht
theorem IsS82.apartQ {w0 W : World} {g : Nat} {f0 : List Int} {f1 : List Int} {f2 : Int} {f3 : Int} {f4 : Int} {f5 : Bool} {f6 : Int} {α : Type} {d : Kd α} {e : Nat} {base : Nat} {ok : Nat → Prop} {v : Value} {xs : List α} (h : IsS82 w0 W g f0 f1 f2 f3 f4 f5 f6) (ho : d.Q e W base ok v xs) (ht : ∀ q, q ∈ e :: d.E → q ≠ 82) : d.Q e W base (fun k => ok k ∧ k ≠ g) v xs := by
  obtain ⟨A0, c0, A1, c1, hb, hg, hr0, hr1⟩ := h
  exact Kd.Q_types ho hb ht
theorem IsS82.own_neQ {w0 W : World} {g : Nat} {f0 : List Int} {f1 : List Int} {f2 : Int} {f3 : Int} {f4 : Int} {f5 : Bool} {f6 : Int} {α : Type} {d : Kd α} {e : Nat} {base : Nat} {ok : Nat → Prop} {v : Value} {xs : List α} (h : IsS82 w0 W g f0 f1 f2 f3 f4 f5 f6) (ho : d.Q e W base ok v xs) (ht : e ≠ 82) : some g ≠ v.ownBlock := by
  obtain ⟨A0, c0, A1, c1, hb, hg, hr0, hr1⟩ := h
  exact Kd.Q_ne ho hb ht
theorem IsS82.apartS {w0 W : World} {g : Nat} {f0 : List Int} {f1 : List Int} {f2 : Int} {f3 : Int} {f4 : Int} {f5 : Bool} {f6 : Int} {α : Type} {d : Kd α} {e : Nat} {base : Nat} {ok : Nat → Prop} {v : Value} {xs : List α} (h : IsS82 w0 W g f0 f1 f2 f3 f4 f5 f6) (ho : d.S e W base ok v xs) (ht : ∀ q, q ∈ e :: d.E → q ≠ 82) : d.S e W base (fun k => ok k ∧ k ≠ g) v xs := by
  obtain ⟨A0, c0, A1, c1, hb, hg, hr0, hr1⟩ := h
  exact Kd.S_types ho hb ht
theorem IsS82.own_neS {w0 W : World} {g : Nat} {f0 : List Int} {f1 : List Int} {f2 : Int} {f3 : Int} {f4 : Int} {f5 : Bool} {f6 : Int} {α : Type} {d : Kd α} {e : Nat} {base : Nat} {ok : Nat → Prop} {v : Value} {xs : List α} (h : IsS82 w0 W g f0 f1 f2 f3 f4 f5 f6) (ho : d.S e W base ok v xs) (ht : e ≠ 82) : some g ≠ v.ownBlock := by
  obtain ⟨A0, c0, A1, c1, hb, hg, hr0, hr1⟩ := h
  exact Kd.S_ne ho hb ht
theorem IsS82.lt {w0 W : World} {g : Nat} {f0 : List Int} {f1 : List Int} {f2 : Int} {f3 : Int} {f4 : Int} {f5 : Bool} {f6 : Int} (h : IsS82 w0 W g f0 f1 f2 f3 f4 f5 f6) : g < W.heap.size := by
  obtain ⟨A0, c0, A1, c1, hb, hg, hr0, hr1⟩ := h
  exact blk_lt hb
theorem IsS82.ge {w0 W : World} {g : Nat} {f0 : List Int} {f1 : List Int} {f2 : Int} {f3 : Int} {f4 : Int} {f5 : Bool} {f6 : Int} (h : IsS82 w0 W g f0 f1 f2 f3 f4 f5 f6) : w0.heap.size ≤ g := by
  obtain ⟨A0, c0, A1, c1, hb, hg, hr0, hr1⟩ := h
  exact hg
theorem IsS82.ne_blk {w0 W : World} {g : Nat} {f0 : List Int} {f1 : List Int} {f2 : Int} {f3 : Int} {f4 : Int} {f5 : Bool} {f6 : Int} {a : Nat} {cs : Array Value} {t : TypeId} {fr : Nat × Nat} (h : IsS82 w0 W g f0 f1 f2 f3 f4 f5 f6) (hb2 : W.heap[a]? = some (.cells cs t fr)) (ht : t ≠ 82) : g ≠ a := by
  obtain ⟨A0, c0, A1, c1, hb, hg, hr0, hr1⟩ := h
  rintro rfl
  rw [hb] at hb2
  injection hb2 with hb2
  injection hb2 with _ ht2
  exact ht ht2.symm
theorem IsS82.far {w0 W : World} {g : Nat} {f0 : List Int} {f1 : List Int} {f2 : Int} {f3 : Int} {f4 : Int} {f5 : Bool} {f6 : Int} {p : Addr} (h : IsS82 w0 W g f0 f1 f2 f3 f4 f5 f6) (hne : g ≠ p.block) (u : Value) : IsS82 w0 (W.setCell p u) g f0 f1 f2 f3 f4 f5 f6 := by
  obtain ⟨A0, c0, A1, c1, hb, hg, hr0, hr1⟩ := h
  exact ⟨A0, c0, A1, c1, blk_far hb hne u, hg, hr0, hr1⟩
theorem cellS82_0 {W : World} {g : Nat} {A0 : Option Addr} {c0 : Nat} {A1 : Option Addr} {c1 : Nat} {f0 : List Int} {f1 : List Int} {f2 : Int} {f3 : Int} {f4 : Int} {f5 : Bool} {f6 : Int} (h : W.heap[g]? = some (.cells #[.slice A0 f0.length c0, .slice A1 f1.length c1, .int .i64 f2, .int .i8 f3, .int .i64 f4, .bool f5, .int .i64 f6] 82 (0, 0))) : W.cell? ⟨g, 0, none⟩ = some (.slice A0 f0.length c0) := (blk_cell h 0).trans rfl
theorem cellS82_1 {W : World} {g : Nat} {A0 : Option Addr} {c0 : Nat} {A1 : Option Addr} {c1 : Nat} {f0 : List Int} {f1 : List Int} {f2 : Int} {f3 : Int} {f4 : Int} {f5 : Bool} {f6 : Int} (h : W.heap[g]? = some (.cells #[.slice A0 f0.length c0, .slice A1 f1.length c1, .int .i64 f2, .int .i8 f3, .int .i64 f4, .bool f5, .int .i64 f6] 82 (0, 0))) : W.cell? ⟨g, 1, none⟩ = some (.slice A1 f1.length c1) := (blk_cell h 1).trans rfl
theorem cellS82_2 {W : World} {g : Nat} {A0 : Option Addr} {c0 : Nat} {A1 : Option Addr} {c1 : Nat} {f0 : List Int} {f1 : List Int} {f2 : Int} {f3 : Int} {f4 : Int} {f5 : Bool} {f6 : Int} (h : W.heap[g]? = some (.cells #[.slice A0 f0.length c0, .slice A1 f1.length c1, .int .i64 f2, .int .i8 f3, .int .i64 f4, .bool f5, .int .i64 f6] 82 (0, 0))) : W.cell? ⟨g, 2, none⟩ = some (.int .i64 f2) := (blk_cell h 2).trans rfl
theorem IsS82.set_2 {w0 W : World} {g : Nat} {f0 : List Int} {f1 : List Int} {f2 : Int} {f3 : Int} {f4 : Int} {f5 : Bool} {f6 : Int} (h : IsS82 w0 W g f0 f1 f2 f3 f4 f5 f6) (x : Int) : IsS82 w0 (W.setCell ⟨g, 2, none⟩ (.int .i64 x)) g f0 f1 x f3 f4 f5 f6 := by
  obtain ⟨A0, c0, A1, c1, hb, hg, hr0, hr1⟩ := h
  exact ⟨A0, c0, A1, c1, by simpa using blk_set hb 2 (.int .i64 x), hg, hr0, hr1⟩
theorem cellS82_3 {W : World} {g : Nat} {A0 : Option Addr} {c0 : Nat} {A1 : Option Addr} {c1 : Nat} {f0 : List Int} {f1 : List Int} {f2 : Int} {f3 : Int} {f4 : Int} {f5 : Bool} {f6 : Int} (h : W.heap[g]? = some (.cells #[.slice A0 f0.length c0, .slice A1 f1.length c1, .int .i64 f2, .int .i8 f3, .int .i64 f4, .bool f5, .int .i64 f6] 82 (0, 0))) : W.cell? ⟨g, 3, none⟩ = some (.int .i8 f3) := (blk_cell h 3).trans rfl
theorem IsS82.set_3 {w0 W : World} {g : Nat} {f0 : List Int} {f1 : List Int} {f2 : Int} {f3 : Int} {f4 : Int} {f5 : Bool} {f6 : Int} (h : IsS82 w0 W g f0 f1 f2 f3 f4 f5 f6) (x : Int) : IsS82 w0 (W.setCell ⟨g, 3, none⟩ (.int .i8 x)) g f0 f1 f2 x f4 f5 f6 := by
  obtain ⟨A0, c0, A1, c1, hb, hg, hr0, hr1⟩ := h
  exact ⟨A0, c0, A1, c1, by simpa using blk_set hb 3 (.int .i8 x), hg, hr0, hr1⟩
theorem cellS82_4 {W : World} {g : Nat} {A0 : Option Addr} {c0 : Nat} {A1 : Option Addr} {c1 : Nat} {f0 : List Int} {f1 : List Int} {f2 : Int} {f3 : Int} {f4 : Int} {f5 : Bool} {f6 : Int} (h : W.heap[g]? = some (.cells #[.slice A0 f0.length c0, .slice A1 f1.length c1, .int .i64 f2, .int .i8 f3, .int .i64 f4, .bool f5, .int .i64 f6] 82 (0, 0))) : W.cell? ⟨g, 4, none⟩ = some (.int .i64 f4) := (blk_cell h 4).trans rfl
theorem IsS82.set_4 {w0 W : World} {g : Nat} {f0 : List Int} {f1 : List Int} {f2 : Int} {f3 : Int} {f4 : Int} {f5 : Bool} {f6 : Int} (h : IsS82 w0 W g f0 f1 f2 f3 f4 f5 f6) (x : Int) : IsS82 w0 (W.setCell ⟨g, 4, none⟩ (.int .i64 x)) g f0 f1 f2 f3 x f5 f6 := by
  obtain ⟨A0, c0, A1, c1, hb, hg, hr0, hr1⟩ := h
  exact ⟨A0, c0, A1, c1, by simpa using blk_set hb 4 (.int .i64 x), hg, hr0, hr1⟩
theorem cellS82_5 {W : World} {g : Nat} {A0 : Option Addr} {c0 : Nat} {A1 : Option Addr} {c1 : Nat} {f0 : List Int} {f1 : List Int} {f2 : Int} {f3 : Int} {f4 : Int} {f5 : Bool} {f6 : Int} (h : W.heap[g]? = some (.cells #[.slice A0 f0.length c0, .slice A1 f1.length c1, .int .i64 f2, .int .i8 f3, .int .i64 f4, .bool f5, .int .i64 f6] 82 (0, 0))) : W.cell? ⟨g, 5, none⟩ = some (.bool f5) := (blk_cell h 5).trans rfl
theorem IsS82.set_5 {w0 W : World} {g : Nat} {f0 : List Int} {f1 : List Int} {f2 : Int} {f3 : Int} {f4 : Int} {f5 : Bool} {f6 : Int} (h : IsS82 w0 W g f0 f1 f2 f3 f4 f5 f6) (x : Bool) : IsS82 w0 (W.setCell ⟨g, 5, none⟩ (.bool x)) g f0 f1 f2 f3 f4 x f6 := by
  obtain ⟨A0, c0, A1, c1, hb, hg, hr0, hr1⟩ := h
  exact ⟨A0, c0, A1, c1, by simpa using blk_set hb 5 (.bool x), hg, hr0, hr1⟩
theorem cellS82_6 {W : World} {g : Nat} {A0 : Option Addr} {c0 : Nat} {A1 : Option Addr} {c1 : Nat} {f0 : List Int} {f1 : List Int} {f2 : Int} {f3 : Int} {f4 : Int} {f5 : Bool} {f6 : Int} (h : W.heap[g]? = some (.cells #[.slice A0 f0.length c0, .slice A1 f1.length c1, .int .i64 f2, .int .i8 f3, .int .i64 f4, .bool f5, .int .i64 f6] 82 (0, 0))) : W.cell? ⟨g, 6, none⟩ = some (.int .i64 f6) := (blk_cell h 6).trans rfl
theorem IsS82.set_6 {w0 W : World} {g : Nat} {f0 : List Int} {f1 : List Int} {f2 : Int} {f3 : Int} {f4 : Int} {f5 : Bool} {f6 : Int} (h : IsS82 w0 W g f0 f1 f2 f3 f4 f5 f6) (x : Int) : IsS82 w0 (W.setCell ⟨g, 6, none⟩ (.int .i64 x)) g f0 f1 f2 f3 f4 f5 x := by
  obtain ⟨A0, c0, A1, c1, hb, hg, hr0, hr1⟩ := h
  exact ⟨A0, c0, A1, c1, by simpa using blk_set hb 6 (.int .i64 x), hg, hr0, hr1⟩
theorem IsS82.new (w0 W : World) (A0 : Option Addr) (c0 : Nat) (A1 : Option Addr) (c1 : Nat) (f0 : List Int) (f1 : List Int) (f2 : Int) (f3 : Int) (f4 : Int) (f5 : Bool) (f6 : Int) (hB : Below w0.heap.size w0 W) (hr0 : Kd.C (Kd.int .u8) w0 A0 f0.length f0) (hr1 : Kd.C (Kd.int .u8) w0 A1 f1.length f1) : IsS82 w0 (W.alloc (.cells #[.slice A0 f0.length c0, .slice A1 f1.length c1, .int .i64 f2, .int .i8 f3, .int .i64 f4, .bool f5, .int .i64 f6] 82)) W.heap.size f0 f1 f2 f3 f4 f5 f6 := ⟨A0, c0, A1, c1, by simpa using heap_alloc_new W _, hB.size, hr0, hr1⟩

/-! ### network_NewSessionWithInputBufferForDebug: function 39 -/
def network_NewSessionWithInputBufferForDebug.f (l0 : List Int) : Option (List Int × List Int × Int × Int × Int × Bool × Int) := some (l0, ([] : List Int), 0, 0, 0, false, 64)
set_option maxHeartbeats 8000000 in
set_option maxRecDepth 100000 in
theorem network_NewSessionWithInputBufferForDebug.calls (A0 : Option Addr) (c0 : Nat) (l0 : List Int) (r1 : List Int) (r2 : List Int) (r3 : Int) (r4 : Int) (r5 : Int) (r6 : Bool) (r7 : Int) (w0 w : World) (hB : Below w0.heap.size w0 w) (hr0 : Kd.C (Kd.int .u8) w0 A0 l0.length l0) (hc0 : l0.length ≤ c0) (h : network_NewSessionWithInputBufferForDebug.f l0 = some (r1, r2, r3, r4, r5, r6, r7)) :
    Calls Tryd.prog 39 #[.slice A0 l0.length c0] w fun e w' => ∃ g_ : Nat, e = .returned (.pointer (some ⟨g_, 0, none⟩)) ∧ IsS82 w0 w' g_ r1 r2 r3 r4 r5 r6 r7 ∧ Below w0.heap.size w0 w' ∧ Below w.heap.size w w' := by
  have hu82 := Tryd.underlying82
  have HR0 := Aside0.mk hr0
  have HC0 := Aside0.mk hc0
  clear hr0 hc0
  have HBW := Aside0.mk (Below.refl w.heap.size w)
  have HW0 := Aside0.mk hB.size
  have HB := Aside0.mk hB
  clear hB
  have H : (some (l0, ([] : List Int), 0, 0, 0, false, 64)) = some (r1, r2, r3, r4, r5, r6, r7) := h
  clear h
  simp only [Option.some.injEq, Prod.mk.injEq] at H
  obtain ⟨rfl, rfl, rfl, rfl, rfl, rfl, rfl⟩ := H
  go_enter Tryd.func39, Tryd.ntmps39
  go_wp2_with (first | ((with_reducible refine gate_dst (N := 5) rfl ?_); refine box_event ?hg (N := 5) ?hd (cs := #[.slice A0 l0.length c0, .slice none 0 0, .int .i64 0, .int .i8 0, .int .i64 0, .bool false, .int .i64 64]) (t := 82) ?hr ?_; (case hd => rfl); (case hg => rfl); (case hr => first | (go_simp; done) | (go_simp; rfl)); intro gb101 hg w2 hbox hb; have n0_ := Aside0.mk (below_step HBW.out hb); have n1_ := Aside0.mk (below_step (by repeat (first | (with_reducible first | exact HB.out | apply below_alloc | apply pw_below_drewN | apply below_drew1) | exact HB.out)) hb); have n2_ := Aside0.mk (hbox); have n3_ := Aside0.mk ((by rw [hg]; exact (below_size (by repeat (first | (with_reducible first | exact HBW.out | apply below_alloc | apply pw_below_drewN | apply below_drew1) | exact HBW.out))) : w.heap.size ≤ gb101)); have n4_ := Aside0.mk ((Nat.le_trans HW0.out (by rw [hg]; exact (below_size (by repeat (first | (with_reducible first | exact HBW.out | apply below_alloc | apply pw_below_drewN | apply below_drew1) | exact HBW.out))) : w.heap.size ≤ gb101) : w0.heap.size ≤ gb101)); clear HBW; clear HB; have HBW := n0_; have HB := n1_; have BK101 := n2_; have GW101 := n3_; have GE101 := n4_; clear n0_ n1_ n2_ n3_ n4_; clear hb hbox hg))
  go_ret
  exact ⟨_, rfl, (show IsS82 w0 _ gb101 l0 ([] : List Int) 0 0 0 false 64 from ⟨_, _, none, 0, by (with_reducible repeat (first | refine blk_drewN ?_ _ | refine blk_drew ?_ | refine blk_alloc ?_ _)); exact BK101.out, GE101.out, HR0.out, (Kd.C_nil _ _)⟩), by repeat (first | (with_reducible first | exact HB.out | apply below_alloc | apply pw_below_drewN | apply below_drew1 | refine below_set ?_ GE101.out) | exact HB.out), by repeat (first | (with_reducible first | exact HBW.out | apply below_alloc | apply pw_below_drewN | apply below_drew1 | refine below_set ?_ GW101.out) | exact HBW.out)⟩

-- NOT PRINTED: function 89 (errors_New)

-- NOT PRINTED: function 82 (network_Session_read)

-- NOT PRINTED: function 68 (network_Session_GetByte)

-- NOT PRINTED: function 69 (network_Session_GetBytes)

-- NOT PRINTED: function 46 (bytes_Buffer_Bytes)

-- NOT PRINTED: function 80 (bytes_Buffer_tryGrowByReslice)

/-- A state of type 80 at block g of W; what its slices lead to came in by w0. -/
def IsS80 (w0 W : World) (g : Nat) (f0 : List Int) (f1 : Int) (f2 : Int) : Prop := ∃ A0 c0, W.heap[g]? = some (.cells #[.slice A0 f0.length c0, .int .i64 f1, .int .i8 f2] 80 (0, 0)) ∧ w0.heap.size ≤ g ∧ Kd.C (Kd.int .u8) w0 A0 f0.length f0
theorem IsS80.grown {w0 W : World} {g : Nat} {f0 : List Int} {f1 : Int} {f2 : Int} {W1 : World} {row : Option Nat} (h : IsS80 w0 W g f0 f1 f2) (hw : W.grownBy W1 row) (hne : some g ≠ row) : IsS80 w0 W1 g f0 f1 f2 := by
  obtain ⟨A0, c0, hb, hg, hr0⟩ := h
  exact ⟨A0, c0, blk_grown hb hw hne, hg, hr0⟩
theorem IsS80.own_neN {w0 W : World} {g : Nat} {f0 : List Int} {f1 : Int} {f2 : Int} {α : Type} {d : Kd α} {e : Nat} {base : Nat} {ok : Nat → Prop} {v : Value} {xs : List α} (h : IsS80 w0 W g f0 f1 f2) (ho : Kd.N d e W base ok v xs) (ht : e ≠ 80) : some g ≠ v.ownBlock := by
  obtain ⟨A0, c0, hb, hg, hr0⟩ := h
  exact Kd.N_ne ho hb ht
theorem IsS80.fresh {w0 W : World} {g : Nat} {f0 : List Int} {f1 : Int} {f2 : Int} (h : IsS80 w0 W g f0 f1 f2) : ∀ k, W.heap.size ≤ k → k ≠ g := by
  obtain ⟨A0, c0, hb, hg, hr0⟩ := h
  exact Kd.freshB hb
theorem IsS80.kept {w0 W : World} {g : Nat} {f0 : List Int} {f1 : Int} {f2 : Int} {W1 : World} {S : Nat → Prop} (h : IsS80 w0 W g f0 f1 f2) (hk : Kept W W1 S) (hne : ¬ S g) : IsS80 w0 W1 g f0 f1 f2 := by
  obtain ⟨A0, c0, hb, hg, hr0⟩ := h
  exact ⟨A0, c0, blk_kept hb hk hne, hg, hr0⟩
theorem IsS80.below {w0 W : World} {g : Nat} {f0 : List Int} {f1 : Int} {f2 : Int} {W1 : World} (h : IsS80 w0 W g f0 f1 f2) (hw : Below W.heap.size W W1) : IsS80 w0 W1 g f0 f1 f2 := h.grown (grown_of_below hw none) (by simp)
theorem IsS80.alloc {w0 W : World} {g : Nat} {f0 : List Int} {f1 : Int} {f2 : Int} (h : IsS80 w0 W g f0 f1 f2) (o : Obj) : IsS80 w0 (W.alloc o) g f0 f1 f2 := h.below (below_alloc (Below.refl _ _) o)
theorem IsS80.drewN {w0 W : World} {g : Nat} {f0 : List Int} {f1 : Int} {f2 : Int} (h : IsS80 w0 W g f0 f1 f2) (m : Nat) : IsS80 w0 (W.drewN m) g f0 f1 f2 := h
theorem IsS80.drew {w0 W : World} {g : Nat} {f0 : List Int} {f1 : Int} {f2 : Int} (h : IsS80 w0 W g f0 f1 f2) : IsS80 w0 W.drew g f0 f1 f2 := h
theorem IsS80.at_ {w0 W : World} {g : Nat} {f0 : List Int} {f1 : Int} {f2 : Int} {w' : World} {m : Nat} (hq : W.drewN m = w') (h : IsS80 w0 W g f0 f1 f2) : IsS80 w0 w' g f0 f1 f2 := by subst hq; exact IsS80.drewN h m
theorem IsS80.apart {w0 W : World} {g : Nat} {f0 : List Int} {f1 : Int} {f2 : Int} {α : Type} {d : Kd α} {e : Nat} {base : Nat} {ok : Nat → Prop} {v : Value} {xs : List α} (h : IsS80 w0 W g f0 f1 f2) (ho : d.R e W base ok v xs) (ht : ∀ q, q ∈ e :: d.E → q ≠ 80) : d.R e W base (fun k => ok k ∧ k ≠ g) v xs := by
  obtain ⟨A0, c0, hb, hg, hr0⟩ := h
  exact Kd.R_types ho hb ht
theorem IsS80.own_ne {w0 W : World} {g : Nat} {f0 : List Int} {f1 : Int} {f2 : Int} {α : Type} {d : Kd α} {e : Nat} {base : Nat} {ok : Nat → Prop} {v : Value} {xs : List α} (h : IsS80 w0 W g f0 f1 f2) (ho : d.R e W base ok v xs) (ht : e ≠ 80) : some g ≠ v.ownBlock := by
  obtain ⟨A0, c0, hb, hg, hr0⟩ := h
  exact Kd.R_ne ho hb ht
theorem IsS80.apartQ {w0 W : World} {g : Nat} {f0 : List Int} {f1 : Int} {f2 : Int} {α : Type} {d : Kd α} {e : Nat} {base : Nat} {ok : Nat → Prop} {v : Value} {xs : List α} (h : IsS80 w0 W g f0 f1 f2) (ho : d.Q e W base ok v xs) (ht : ∀ q, q ∈ e :: d.E → q ≠ 80) : d.Q e W base (fun k => ok k ∧ k ≠ g) v xs := by
  obtain ⟨A0, c0, hb, hg, hr0⟩ := h
  exact Kd.Q_types ho hb ht
theorem IsS80.own_neQ {w0 W : World} {g : Nat} {f0 : List Int} {f1 : Int} {f2 : Int} {α : Type} {d : Kd α} {e : Nat} {base : Nat} {ok : Nat → Prop} {v : Value} {xs : List α} (h : IsS80 w0 W g f0 f1 f2) (ho : d.Q e W base ok v xs) (ht : e ≠ 80) : some g ≠ v.ownBlock := by
  obtain ⟨A0, c0, hb, hg, hr0⟩ := h
  exact Kd.Q_ne ho hb ht
theorem IsS80.apartS {w0 W : World} {g : Nat} {f0 : List Int} {f1 : Int} {f2 : Int} {α : Type} {d : Kd α} {e : Nat} {base : Nat} {ok : Nat → Prop} {v : Value} {xs : List α} (h : IsS80 w0 W g f0 f1 f2) (ho : d.S e W base ok v xs) (ht : ∀ q, q ∈ e :: d.E → q ≠ 80) : d.S e W base (fun k => ok k ∧ k ≠ g) v xs := by
  obtain ⟨A0, c0, hb, hg, hr0⟩ := h
  exact Kd.S_types ho hb ht
theorem IsS80.own_neS {w0 W : World} {g : Nat} {f0 : List Int} {f1 : Int} {f2 : Int} {α : Type} {d : Kd α} {e : Nat} {base : Nat} {ok : Nat → Prop} {v : Value} {xs : List α} (h : IsS80 w0 W g f0 f1 f2) (ho : d.S e W base ok v xs) (ht : e ≠ 80) : some g ≠ v.ownBlock := by
  obtain ⟨A0, c0, hb, hg, hr0⟩ := h
  exact Kd.S_ne ho hb ht
theorem IsS80.lt {w0 W : World} {g : Nat} {f0 : List Int} {f1 : Int} {f2 : Int} (h : IsS80 w0 W g f0 f1 f2) : g < W.heap.size := by
  obtain ⟨A0, c0, hb, hg, hr0⟩ := h
  exact blk_lt hb
theorem IsS80.ge {w0 W : World} {g : Nat} {f0 : List Int} {f1 : Int} {f2 : Int} (h : IsS80 w0 W g f0 f1 f2) : w0.heap.size ≤ g := by
  obtain ⟨A0, c0, hb, hg, hr0⟩ := h
  exact hg
theorem IsS80.ne_blk {w0 W : World} {g : Nat} {f0 : List Int} {f1 : Int} {f2 : Int} {a : Nat} {cs : Array Value} {t : TypeId} {fr : Nat × Nat} (h : IsS80 w0 W g f0 f1 f2) (hb2 : W.heap[a]? = some (.cells cs t fr)) (ht : t ≠ 80) : g ≠ a := by
  obtain ⟨A0, c0, hb, hg, hr0⟩ := h
  rintro rfl
  rw [hb] at hb2
  injection hb2 with hb2
  injection hb2 with _ ht2
  exact ht ht2.symm
theorem IsS80.far {w0 W : World} {g : Nat} {f0 : List Int} {f1 : Int} {f2 : Int} {p : Addr} (h : IsS80 w0 W g f0 f1 f2) (hne : g ≠ p.block) (u : Value) : IsS80 w0 (W.setCell p u) g f0 f1 f2 := by
  obtain ⟨A0, c0, hb, hg, hr0⟩ := h
  exact ⟨A0, c0, blk_far hb hne u, hg, hr0⟩
theorem cellS80_0 {W : World} {g : Nat} {A0 : Option Addr} {c0 : Nat} {f0 : List Int} {f1 : Int} {f2 : Int} (h : W.heap[g]? = some (.cells #[.slice A0 f0.length c0, .int .i64 f1, .int .i8 f2] 80 (0, 0))) : W.cell? ⟨g, 0, none⟩ = some (.slice A0 f0.length c0) := (blk_cell h 0).trans rfl
theorem cellS80_1 {W : World} {g : Nat} {A0 : Option Addr} {c0 : Nat} {f0 : List Int} {f1 : Int} {f2 : Int} (h : W.heap[g]? = some (.cells #[.slice A0 f0.length c0, .int .i64 f1, .int .i8 f2] 80 (0, 0))) : W.cell? ⟨g, 1, none⟩ = some (.int .i64 f1) := (blk_cell h 1).trans rfl
theorem IsS80.set_1 {w0 W : World} {g : Nat} {f0 : List Int} {f1 : Int} {f2 : Int} (h : IsS80 w0 W g f0 f1 f2) (x : Int) : IsS80 w0 (W.setCell ⟨g, 1, none⟩ (.int .i64 x)) g f0 x f2 := by
  obtain ⟨A0, c0, hb, hg, hr0⟩ := h
  exact ⟨A0, c0, by simpa using blk_set hb 1 (.int .i64 x), hg, hr0⟩
theorem cellS80_2 {W : World} {g : Nat} {A0 : Option Addr} {c0 : Nat} {f0 : List Int} {f1 : Int} {f2 : Int} (h : W.heap[g]? = some (.cells #[.slice A0 f0.length c0, .int .i64 f1, .int .i8 f2] 80 (0, 0))) : W.cell? ⟨g, 2, none⟩ = some (.int .i8 f2) := (blk_cell h 2).trans rfl
theorem IsS80.set_2 {w0 W : World} {g : Nat} {f0 : List Int} {f1 : Int} {f2 : Int} (h : IsS80 w0 W g f0 f1 f2) (x : Int) : IsS80 w0 (W.setCell ⟨g, 2, none⟩ (.int .i8 x)) g f0 f1 x := by
  obtain ⟨A0, c0, hb, hg, hr0⟩ := h
  exact ⟨A0, c0, by simpa using blk_set hb 2 (.int .i8 x), hg, hr0⟩
theorem IsS80.new (w0 W : World) (A0 : Option Addr) (c0 : Nat) (f0 : List Int) (f1 : Int) (f2 : Int) (hB : Below w0.heap.size w0 W) (hr0 : Kd.C (Kd.int .u8) w0 A0 f0.length f0) : IsS80 w0 (W.alloc (.cells #[.slice A0 f0.length c0, .int .i64 f1, .int .i8 f2] 80)) W.heap.size f0 f1 f2 := ⟨A0, c0, by simpa using heap_alloc_new W _, hB.size, hr0⟩

/-! ### bytes_Buffer_Len: function 86 -/
def bytes_Buffer_Len.f (s0_0 : List Int) (s0_1 : Int) (s0_2 : Int) : Option (Int × Int × Int) := some (wrap64 ((s0_0.length : Int) - s0_1), s0_1, s0_2)
set_option maxHeartbeats 8000000 in
set_option maxRecDepth 100000 in
theorem bytes_Buffer_Len.calls (g : Nat) (s0_0 : List Int) (s0_1 : Int) (s0_2 : Int) (r1 : Int) (r2 : Int) (r3 : Int) (w0 w : World) (hI : IsS80 w0 w g s0_0 s0_1 s0_2) (hB : Below w0.heap.size w0 w) (h : bytes_Buffer_Len.f s0_0 s0_1 s0_2 = some (r1, r2, r3)) :
    Calls Tryd.prog 86 #[.pointer (some ⟨g, 0, none⟩)] w fun e w' => e = .returned (.int .i64 r1) ∧ IsS80 w0 w' g s0_0 r2 r3 ∧ Below w0.heap.size w0 w' ∧ KeepBut w w' g none := by
  have HI0 := Aside0.mk hI
  have HK := Aside0.mk (KeepBut.refl w g none)
  have HL := Aside0.mk hB.size
  clear hI
  have HW0 := Aside0.mk hB.size
  have HB := Aside0.mk hB
  clear hB
  have H : (some (wrap64 ((s0_0.length : Int) - s0_1), s0_1, s0_2)) = some (r1, r2, r3) := h
  clear h
  simp only [Option.some.injEq, Prod.mk.injEq] at H
  obtain ⟨rfl, rfl, rfl⟩ := H
  obtain ⟨ASz2_0, cSz2_0, HGz2, hgz2, HSz2_0⟩ := HI0.out
  have hcz2_0 := cellS80_0 HGz2
  have hcz2_1 := cellS80_1 HGz2
  have hcz2_2 := cellS80_2 HGz2
  have hfz2_1 := blk_frozen HGz2 1
  have hfz2_2 := blk_frozen HGz2 2
  clear HGz2 hgz2
  go_enter Tryd.func86, Tryd.ntmps86
  go_wp2
  repeat (go_quiet (fail); try go_wp2)
  go_ret
  exact ⟨by first | rfl | (simp [errW_none, errW_some] <;> rfl) | (simp [*, errW_none, errW_some] <;> rfl), by repeat (first | (with_reducible first | exact HI0.out | apply IsS80.alloc | apply IsS80.drewN | apply IsS80.drew | apply IsS80.set_1 | apply IsS80.set_2) | exact HI0.out), by repeat (first | (with_reducible first | exact HB.out | apply below_alloc | apply pw_below_drewN | apply below_drew1 | refine below_set ?_ (IsS80.ge HI0.out)) | exact HB.out), by repeat (first | (with_reducible first | exact HK.out | apply KeepBut.set_ | apply keep_drewN | apply keep_drew | apply keep_alloc) | exact HK.out)⟩

-- NOT PRINTED: function 87 (bytes_Buffer_Reset)

-- NOT PRINTED: function 88 (bytes_growSlice)

-- NOT PRINTED: function 81 (bytes_Buffer_grow)

-- NOT PRINTED: function 58 (bytes_Buffer_Write)

-- NOT PRINTED: function 83 (binary_bigEndian_Uint64)

-- NOT PRINTED: function 84 (binary_littleEndian_Uint64)

-- NOT PRINTED: function 73 (network_Session_GetInt64)

-- NOT PRINTED: function 74 (network_Session_GetInt)

-- NOT PRINTED: function 70 (network_Session_GetClr)

-- NOT PRINTED: function 78 (network_Session_Peek)

-- NOT PRINTED: function 71 (impl_long)

-- NOT PRINTED: function 72 (network_Session_GetDlc)

-- NOT PRINTED: function 75 (network_Session_GetKeyVal)

/-! ### network_zzIndexZero: function 85 -/
def network_zzIndexZero.l0 : Nat → List Int → Int → Int → Option (Int)
  | 0, _, _, _ => none
  | k + 1, x5, x6, x7 => if x7 < x6 then (if 0 ≤ x7 then (if x7 < (x5.length : Int) then (if (rd x5 x7) = 0 then (some x7) else (network_zzIndexZero.l0 k x5 x6 (wrap64 (x7 + 1)))) else (none)) else (none)) else (some (-1))
def network_zzIndexZero.f (k : Nat) (l0 : List Int) : Option (Int) := network_zzIndexZero.l0 k l0 (l0.length : Int) 0
theorem network_zzIndexZero.mono_l : ∀ k, (∀ y0 y1 y2, LeO (network_zzIndexZero.l0 k y0 y1 y2) (network_zzIndexZero.l0 (k + 1) y0 y1 y2))
  | 0 => fun _ _ _ r h => by simp [network_zzIndexZero.l0] at h
  | k + 1 => by
    have ih0 := network_zzIndexZero.mono_l k
    · intro y0 y1 y2
      unfold network_zzIndexZero.l0
      repeat' first
      | (with_reducible exact ih0 _ _ _)
      | (with_reducible exact LeO.refl _)
      | (with_reducible exact LeO.none _)
      | (with_reducible refine LeO.ite ?_ ?_)
      | (with_reducible refine LeO.bind ?_ (fun _ => ?_))
      | exact ih0 _ _ _
      | exact LeO.none _
      | refine LeO.ite ?_ ?_
      | refine LeO.bind ?_ (fun _ => ?_)
theorem network_zzIndexZero.mono : ∀ a0 k, LeO (network_zzIndexZero.f k a0) (network_zzIndexZero.f (k + 1) a0) := by
  intro a0 k
  have ih0 := network_zzIndexZero.mono_l k
  unfold network_zzIndexZero.f
  repeat' first
      | (with_reducible exact ih0 _ _ _)
      | (with_reducible exact LeO.refl _)
      | (with_reducible exact LeO.none _)
      | (with_reducible refine LeO.ite ?_ ?_)
      | (with_reducible refine LeO.bind ?_ (fun _ => ?_))
      | exact ih0 _ _ _
      | exact LeO.none _
      | refine LeO.ite ?_ ?_
      | refine LeO.bind ?_ (fun _ => ?_)
set_option maxHeartbeats 8000000 in
set_option maxRecDepth 100000 in
theorem network_zzIndexZero.calls (k : Nat) (A0 : Option Addr) (c0 : Nat) (l0 : List Int) (r : Int) (w : World) (hr0 : Kd.C (Kd.int .u8) w A0 l0.length l0) (hc0 : l0.length ≤ c0) (h : network_zzIndexZero.f k l0 = some r) :
    Calls Tryd.prog 85 #[.slice A0 l0.length c0] w fun e w' => e = .returned (.int .i64 r) ∧ Drawn0 w w' := by
  have HR0 := Aside0.mk hr0
  have HC0 := Aside0.mk hc0
  clear hr0 hc0
  have H : (network_zzIndexZero.l0 k l0 (l0.length : Int) 0) = some r := h
  clear h
  have H' := Aside0.mk H
  clear H
  go_enter Tryd.func85, Tryd.ntmps85
  go_wp2
  go_loopg [7] k (fun kq v7 w' => ∃ (x7_1 : Int), v7 = .int .i64 x7_1 ∧ Aside0 (network_zzIndexZero.l0 kq l0 (l0.length : Int) x7_1 = some r) ∧ Aside0 (kq ≤ k) ∧ Drawn0 w w')
  case atStart => exact ⟨(0), (by first | rfl | (simp; done) | (simp [*]; done)), H', ⟨Nat.le_refl _⟩, by repeat (first | exact Drawn0.refl _ | apply Drawn0.step)⟩
  case round =>
    clear H'
    obtain ⟨x7_1, rfl, HA, HK1, ⟨m1, rfl⟩⟩ := hrel
    cases gk with
    | zero => exact absurd HA.out (by simp [network_zzIndexZero.l0])
    | succ k1 =>
      have H := HA.out
      clear HA
      simp only [network_zzIndexZero.l0] at H
      by_cases c2 : x7_1 < (l0.length : Int)
      · rw [if_pos c2] at H
        have c2b0 : decide (x7_1 < (l0.length : Int)) = true := decide_eq_true c2
        clear c2
        by_cases c3 : 0 ≤ x7_1
        · rw [if_pos c3] at H
          have c3b0 : decide (0 ≤ x7_1) = true := decide_eq_true c3
          clear c3
          by_cases c4 : x7_1 < (l0.length : Int)
          · rw [if_pos c4] at H
            have c4b0 : decide (x7_1 < (l0.length : Int)) = true := decide_eq_true c4
            clear c4
            by_cases c5 : (rd l0 x7_1) = 0
            · rw [if_pos c5] at H
              have c5b0 : ((rd l0 x7_1) == 0) = true := beq_iff_eq.mpr c5
              have c5b1 : ((rd l0 x7_1) != 0) = false := bne_eq_false_iff_eq.mpr c5
              clear c5
              obtain rfl := Option.some.inj H
              have p106 : 0 ≤ (x7_1 : Int) := of_decide_eq_true (by first | (with_reducible assumption) | assumption)
              have q106 : x7_1 < (l0.length : Int) := of_decide_eq_true (by first | (with_reducible assumption) | assumption)
              obtain ⟨ad106, e106, hx106_0⟩ := Kd.at_int HR0.out x7_1 p106 q106
              cases e106
              replace p106 := eq_true p106
              replace q106 := eq_true q106
              go_wp2
              go_ret
              exact ⟨by first | rfl | (simp; done) | (simp [*]; done), by repeat (first | exact Drawn0.refl _ | apply Drawn0.step)⟩
            · rw [if_neg c5] at H
              have c5b0 : ((rd l0 x7_1) == 0) = false := beq_eq_false_iff_ne.mpr c5
              have c5b1 : ((rd l0 x7_1) != 0) = true := bne_iff_ne.mpr c5
              have H' := Aside0.mk H
              clear H
              have p106 : 0 ≤ (x7_1 : Int) := of_decide_eq_true (by first | (with_reducible assumption) | assumption)
              have q106 : x7_1 < (l0.length : Int) := of_decide_eq_true (by first | (with_reducible assumption) | assumption)
              obtain ⟨ad106, e106, hx106_0⟩ := Kd.at_int HR0.out x7_1 p106 q106
              cases e106
              replace p106 := eq_true p106
              replace q106 := eq_true q106
              go_wp2
              go_roundg k1
              case measure => have := HK1.out; omega
              case rel => exact ⟨(wrap64 (x7_1 + 1)), (by first | rfl | (simp; done) | (simp [*]; done)), H', ⟨by have := HK1.out; omega⟩, by repeat (first | exact Drawn0.refl _ | apply Drawn0.step)⟩
          · rw [if_neg c4] at H
            exact absurd H (by simp)
        · rw [if_neg c3] at H
          exact absurd H (by simp)
      · rw [if_neg c2] at H
        have c2b0 : decide (x7_1 < (l0.length : Int)) = false := decide_eq_false c2
        clear c2
        obtain rfl := Option.some.inj H
        go_wp2
        go_ret
        exact ⟨by first | rfl | (simp; done) | (simp [*]; done), by repeat (first | exact Drawn0.refl _ | apply Drawn0.step)⟩

-- NOT PRINTED: function 76 (network_Session_GetNullTermString)

-- NOT PRINTED: function 77 (network_Session_GetFixedClr)

-- NOT PRINTED: function 48 (impl_got)

-- NOT PRINTED: function 49 (network_Session_Rest)

-- NOT PRINTED: function 18 (impl_SessionGet)

/-! ### slices_Reverse_byte_byte: function 23 -/
def slices_Reverse_byte_byte.l0 : Nat → List Int → Int → Int → Option (List Int)
  | 0, _, _, _ => none
  | k + 1, x0, x2, x3 => if x2 < x3 then (if 0 ≤ x3 then (if x3 < (x0.length : Int) then (if 0 ≤ x2 then (if x2 < (x0.length : Int) then (slices_Reverse_byte_byte.l0 k ((x0.set (x2 : Int).toNat (rd x0 x3)).set (x3 : Int).toNat (rd x0 x2)) (wrap64 (x2 + 1)) (wrap64 (x3 - 1))) else (none)) else (none)) else (none)) else (none)) else (some x0)
def slices_Reverse_byte_byte.f (k : Nat) (l0 : List Int) : Option (List Int) := slices_Reverse_byte_byte.l0 k l0 0 (wrap64 ((l0.length : Int) - 1))
theorem slices_Reverse_byte_byte.mono_l : ∀ k, (∀ y0 y1 y2, LeO (slices_Reverse_byte_byte.l0 k y0 y1 y2) (slices_Reverse_byte_byte.l0 (k + 1) y0 y1 y2))
  | 0 => fun _ _ _ r h => by simp [slices_Reverse_byte_byte.l0] at h
  | k + 1 => by
    have ih0 := slices_Reverse_byte_byte.mono_l k
    · intro y0 y1 y2
      unfold slices_Reverse_byte_byte.l0
      repeat' first
      | (with_reducible exact ih0 _ _ _)
      | (with_reducible exact LeO.refl _)
      | (with_reducible exact LeO.none _)
      | (with_reducible refine LeO.ite ?_ ?_)
      | (with_reducible refine LeO.bind ?_ (fun _ => ?_))
      | exact ih0 _ _ _
      | exact LeO.none _
      | refine LeO.ite ?_ ?_
      | refine LeO.bind ?_ (fun _ => ?_)
theorem slices_Reverse_byte_byte.mono : ∀ a0 k, LeO (slices_Reverse_byte_byte.f k a0) (slices_Reverse_byte_byte.f (k + 1) a0) := by
  intro a0 k
  have ih0 := slices_Reverse_byte_byte.mono_l k
  unfold slices_Reverse_byte_byte.f
  repeat' first
      | (with_reducible exact ih0 _ _ _)
      | (with_reducible exact LeO.refl _)
      | (with_reducible exact LeO.none _)
      | (with_reducible refine LeO.ite ?_ ?_)
      | (with_reducible refine LeO.bind ?_ (fun _ => ?_))
      | exact ih0 _ _ _
      | exact LeO.none _
      | refine LeO.ite ?_ ?_
      | refine LeO.bind ?_ (fun _ => ?_)
def slices_Reverse_byte_byte.T3 : Bool × List (List Nat × List Nat) := (true, [([], []), ([], []), ([], []), ([], []), ([], []), ([], []), ([4, 5], [4, 5]), ([6], [6]), ([], []), ([], []), ([8, 9], [8, 9]), ([10], [10]), ([0, 1, 0, 1, 4, 5, 6, 7, 11], [0, 1]), ([12, 7, 0, 1, 4, 5, 6, 7, 11], [7, 12]), ([2, 3, 0, 1, 2, 3, 4, 5, 6, 7, 8, 9, 10, 11, 12, 13], [2, 3]), ([14, 11, 13, 0, 1, 2, 3, 4, 5, 6, 7, 8, 9, 10, 11, 12, 13], [11, 14])])
def slices_Reverse_byte_byte.B3 : List Nat := [0, 0, 0, 0, 0, 0, 48, 112, 0, 0, 768, 1792, 4083, 8179, 16383, 32767]
theorem slices_Reverse_byte_byte.tab3 : rtab .any (opsOf Tryd.f23 3) = slices_Reverse_byte_byte.T3 := by kernel_rfl
theorem slices_Reverse_byte_byte.bits3 : waitsOk slices_Reverse_byte_byte.T3.2 slices_Reverse_byte_byte.B3 = true := by kernel_rfl
set_option maxHeartbeats 8000000 in
set_option maxRecDepth 100000 in
theorem slices_Reverse_byte_byte.calls (k : Nat) (P0_ : Nat → Prop) (u9000_ : Value) (l0 : List Int) (r : List Int) (w0 w : World) (hB : Below w0.heap.size w0 w) (ho0 : Kd.R (Kd.int .u8) 5 w w0.heap.size P0_ u9000_ l0) (h : slices_Reverse_byte_byte.f k l0 = some r) :
    Calls Tryd.prog 23 #[u9000_] w fun e w' => e = .returned (.tuple #[]) ∧ Kd.R (Kd.int .u8) 5 w' w0.heap.size (fun k_ => (P0_ k_ ∨ w.heap.size ≤ k_)) u9000_ r ∧ Below w0.heap.size w0 w' ∧ Kept w w' (fun k_ => P0_ k_) := by
  have HO0 := Aside0.mk (show Kd.R (Kd.int .u8) 5 w w0.heap.size (fun k_ => (P0_ k_ ∨ w.heap.size ≤ k_)) u9000_ l0 from Kd.R_mono ho0 (fun k_ hk => (.inl hk)))
  have HK := Aside0.mk (Kept.refl w (fun k_ => P0_ k_))
  have HW0 := Aside0.mk hB.size
  have HB := Aside0.mk hB
  clear hB
  have H : (slices_Reverse_byte_byte.l0 k l0 0 (wrap64 ((l0.length : Int) - 1))) = some r := h
  clear h
  have H' := Aside0.mk H
  clear H
  obtain ⟨Ao2, co2, eo2⟩ := Kd.R_slice HO0.out
  subst eo2
  go_enter Tryd.func23, Tryd.ntmps23
  go_wp2
  go_loopg [2, 3] k (fun kq v2 v3 w' => ∃ (x0_1 : List Int) (x2_1 : Int) (x3_1 : Int), v2 = .int .i64 x2_1 ∧ v3 = .int .i64 x3_1 ∧ Aside0 (slices_Reverse_byte_byte.l0 kq x0_1 x2_1 x3_1 = some r) ∧ Aside0 (kq ≤ k) ∧ Aside0 (Kd.R (Kd.int .u8) 5 w' w0.heap.size (fun k_ => (P0_ k_ ∨ w.heap.size ≤ k_)) (.slice Ao2 l0.length co2) x0_1) ∧ Aside0 (Kept w w' (fun k_ => P0_ k_)) ∧ Aside0 (Below w0.heap.size w0 w'))
  case atStart => exact ⟨(l0), (0), (wrap64 ((l0.length : Int) - 1)), (by first | rfl | (simp; done) | (simp [*]; done)), (by first | rfl | (simp; done) | (simp [*]; done)), H', ⟨Nat.le_refl _⟩, ⟨by (with_reducible repeat (first | apply Kd.R_alloc | apply Kd.R_drewN | apply Kd.R_drew)); exact HO0.out⟩, ⟨by repeat (first | (with_reducible first | exact HK.out | apply Kept.alloc | apply Kept.drewN | apply Kept.drew) | exact HK.out)⟩, ⟨by repeat (first | (with_reducible first | exact HB.out | apply below_alloc | apply pw_below_drewN | apply below_drew1) | exact HB.out)⟩⟩
  case round =>
    clear H'
    try clear c2
    try clear p2
    obtain ⟨x0_1, x2_1, x3_1, rfl, rfl, HA, HK1, HO_0, HK, HB⟩ := hrel
    have hl0_1 := (Kd.R_reads' HO_0.out).1
    rw [hl0_1] at HO_0
    (try simp only [hl0_1])
    cases gk with
    | zero => exact absurd HA.out (by simp [slices_Reverse_byte_byte.l0])
    | succ k1 =>
      have H := HA.out
      clear HA
      simp only [slices_Reverse_byte_byte.l0] at H
      by_cases c3 : x2_1 < x3_1
      · rw [if_pos c3] at H
        have c3b0 : decide (x2_1 < x3_1) = true := decide_eq_true c3
        clear c3
        by_cases c4 : 0 ≤ x3_1
        · rw [if_pos c4] at H
          have c4b0 : decide (0 ≤ x3_1) = true := decide_eq_true c4
          clear c4
          by_cases c5 : x3_1 < (x0_1.length : Int)
          · rw [if_pos c5] at H
            have c5b0 : decide (x3_1 < (x0_1.length : Int)) = true := decide_eq_true c5
            clear c5
            by_cases c6 : 0 ≤ x2_1
            · rw [if_pos c6] at H
              have c6b0 : decide (0 ≤ x2_1) = true := decide_eq_true c6
              clear c6
              by_cases c7 : x2_1 < (x0_1.length : Int)
              · rw [if_pos c7] at H
                have c7b0 : decide (x2_1 < (x0_1.length : Int)) = true := decide_eq_true c7
                clear c7
                obtain ⟨y112, hy112⟩ : ∃ y_ : List Int, y_ = (x0_1.set (x2_1 : Int).toNat (rd x0_1 x3_1)) := ⟨_, rfl⟩
                replace H : (slices_Reverse_byte_byte.l0 k1 (y112.set (x3_1 : Int).toNat (rd x0_1 x2_1)) (wrap64 (x2_1 + 1)) (wrap64 (x3_1 - 1))) = some r := by first | (rw [hy112]; with_reducible exact H) | (have H2_ := (Option.bind_some _ _).symm.trans H; rw [hy112]; with_reducible exact H2_) | (have H2_ := (Option.bind_some _ _).symm.trans H; with_reducible exact H2_) | with_reducible exact H | (rw [hy112]; exact H) | exact H
                have Ny112 := Aside0.mk hy112
                clear hy112
                obtain ⟨y113, hy113⟩ : ∃ y_ : List Int, y_ = (y112.set (x3_1 : Int).toNat (rd x0_1 x2_1)) := ⟨_, rfl⟩
                replace H : (slices_Reverse_byte_byte.l0 k1 y113 (wrap64 (x2_1 + 1)) (wrap64 (x3_1 - 1))) = some r := by first | (rw [hy113]; with_reducible exact H) | (have H2_ := (Option.bind_some _ _).symm.trans H; rw [hy113]; with_reducible exact H2_) | (have H2_ := (Option.bind_some _ _).symm.trans H; with_reducible exact H2_) | with_reducible exact H | (rw [hy113]; exact H) | exact H
                have Ny113 := Aside0.mk hy113
                clear hy113
                have H' := Aside0.mk H
                clear H
                try go_wp2
                have n0_ := Aside0.mk (Kd.R_drew HO_0.out)
                have n1_ := Aside0.mk (Kept.drew HK.out)
                have n2_ := Aside0.mk (below_drew1 HB.out)
                clear HO_0
                clear HK
                clear HB
                have HO_0 := n0_
                have HK := n1_
                have HB := n2_
                clear n0_ n1_ n2_
                have p110 : 0 ≤ (x3_1 : Int) := of_decide_eq_true (by first | (with_reducible assumption) | assumption)
                have q110 : x3_1 < (x0_1.length : Int) := of_decide_eq_true (by first | (with_reducible assumption) | assumption)
                obtain ⟨ad110, e110, hx110_0⟩ := Kd.at_int (Kd.R_reads' HO_0.out).2.2 x3_1 p110 q110
                cases e110
                replace p110 := eq_true p110
                replace q110 := eq_true q110
                have p111 : 0 ≤ (x2_1 : Int) := of_decide_eq_true (by first | (with_reducible assumption) | assumption)
                have q111 : x2_1 < (x0_1.length : Int) := of_decide_eq_true (by first | (with_reducible assumption) | assumption)
                obtain ⟨ad111, e111, hx111_0⟩ := Kd.at_int (Kd.R_reads' HO_0.out).2.2 x2_1 p111 q111
                obtain rfl : ad110 = ad111 := (by injection e111)
                replace p111 := eq_true p111
                replace q111 := eq_true q111
                have p8 : 0 ≤ (x2_1 : Int) := of_decide_eq_true (by first | (with_reducible assumption) | assumption)
                have q8 : (x2_1 : Int) < ((x0_1.length : Int) : Int) := of_decide_eq_true (by first | (with_reducible assumption) | assumption)
                obtain ⟨go8, co8, eo8, gb8, gl8, cl8, HG8⟩ := Kd.R_form HO_0.out (by omega)
                (first | cases eo8 | (injection eo8 with ea_ en_ ec_; (first | subst ea_ | (injection ea_ with ea_; subst ea_)); subst ec_; clear en_))
                have GB8 := Aside0.mk gb8
                have GG8 := Aside0.mk HG8
                clear gb8 gl8 HG8
                have HMgo8 := Aside0.mk (show (P0_ go8 ∨ w.heap.size ≤ go8) from (HO_0.out.1 _ rfl))
                (first | simp only [add_plain] at hx110_0 | skip)
                (first | simp only [add_plain] at hx111_0 | skip)
                obtain ⟨hx8_0, hf8_0⟩ := Kd.R_celln 0 HO_0.out (x2_1 : Int) p8 q8
                replace p8 := eq_true p8
                replace q8 := eq_true q8
                have HP11 := Kd.R_putn HO_0.out (x2_1 : Int) (rd x0_1 x3_1)
                rw [← Ny112.out] at HP11
                have HQ11 := Aside0.mk HP11
                clear HP11
                have p9 : 0 ≤ (x3_1 : Int) := of_decide_eq_true (by first | (with_reducible assumption) | assumption)
                have q9 : (x3_1 : Int) < ((x0_1.length : Int) : Int) := of_decide_eq_true (by first | (with_reducible assumption) | assumption)
                obtain ⟨hx9_0, hf9_0⟩ := Kd.R_celln 0 HQ11.out (x3_1 : Int) p9 q9
                replace p9 := eq_true p9
                replace q9 := eq_true q9
                have HP12 := Kd.R_putn HQ11.out (x3_1 : Int) (rd x0_1 x2_1)
                rw [← Ny113.out] at HP12
                have HQ12 := Aside0.mk HP12
                clear HP12
                refine start_ (n := 16) (S := fun w' => w'.cell? ⟨go8, (x3_1).toNat, none⟩ = some (.int .u8 (rd x0_1 x3_1)) ∧ w'.cell? ⟨go8, (x2_1).toNat, none⟩ = some (.int .u8 (rd x0_1 x2_1))) (ds := [13, 15]) #[false, false, false, false, false, false, false, false, false, false, false, false, false, false, false, false] (by kernel_rfl) rfl rfl ⟨hx110_0, hx111_0⟩ (fun hHeld => ?_); refine with_tabW slices_Reverse_byte_byte.tab3 slices_Reverse_byte_byte.bits3 (fun HT_ HW_ => ?_)
                generalize wr.drew = w10 at HO_0 HK HB GG8 HQ11 HQ12 hf8_0 hf9_0 hx110_0 hx111_0 hx8_0 hx9_0 hHeld ⊢
                refine pure_ (i := 0) (N := some 14) (v := ?_) (a' := ?_) #[true, false, false, false, false, false, false, false, false, false, false, false, false, false, false, false] rfl rfl (any_of HT_.out (by kernel_rfl)) (fun _ _ _ h => h) (Or.inl ⟨by rfl, ?_⟩) ?_ ?_
                rotate_left
                · intro w'
                  go_simp
                  with_reducible rfl
                rotate_left
                · simp only [Act.put, List.setIfInBounds_toArray, List.set_cons_zero, List.set_cons_succ, i64_w, i32_w]
                  rfl
                refine pure_ (i := 1) (N := some 15) (v := ?_) (a' := ?_) #[true, true, false, false, false, false, false, false, false, false, false, false, false, false, false, false] rfl rfl (any_of HT_.out (by kernel_rfl)) (fun _ _ _ h => h) (Or.inl ⟨by rfl, ?_⟩) ?_ ?_
                rotate_left
                · intro w'
                  go_simp
                  with_reducible rfl
                rotate_left
                · simp only [Act.put, List.setIfInBounds_toArray, List.set_cons_zero, List.set_cons_succ, i64_w, i32_w]
                  rfl
                refine pure_ (i := 2) (N := some 16) (v := ?_) (a' := ?_) #[true, true, true, false, false, false, false, false, false, false, false, false, false, false, false, false] rfl rfl (any_of HT_.out (by kernel_rfl)) (fun _ _ _ h => h) (Or.inl ⟨by rfl, ?_⟩) ?_ ?_
                rotate_left
                · intro w'
                  go_simp
                  with_reducible rfl
                rotate_left
                · simp only [Act.put, List.setIfInBounds_toArray, List.set_cons_zero, List.set_cons_succ, i64_w, i32_w]
                  rfl
                refine pure_ (i := 3) (N := some 17) (v := ?_) (a' := ?_) #[true, true, true, true, false, false, false, false, false, false, false, false, false, false, false, false] rfl rfl (any_of HT_.out (by kernel_rfl)) (fun _ _ _ h => h) (Or.inl ⟨by rfl, ?_⟩) ?_ ?_
                rotate_left
                · intro w'
                  go_simp
                  with_reducible rfl
                rotate_left
                · simp only [Act.put, List.setIfInBounds_toArray, List.set_cons_zero, List.set_cons_succ, i64_w, i32_w]
                  rfl
                refine pure_ (i := 4) (N := some 18) (v := ?_) (a' := ?_) #[true, true, true, true, true, false, false, false, false, false, false, false, false, false, false, false] rfl rfl (any_of HT_.out (by kernel_rfl)) (fun _ _ _ h => h) (Or.inl ⟨by rfl, ?_⟩) ?_ ?_
                rotate_left
                · intro w'
                  go_simp
                  with_reducible rfl
                rotate_left
                · simp only [Act.put, List.setIfInBounds_toArray, List.set_cons_zero, List.set_cons_succ, i64_w, i32_w]
                  rfl
                refine pure_ (i := 5) (N := some 19) (v := ?_) (a' := ?_) #[true, true, true, true, true, true, false, false, false, false, false, false, false, false, false, false] rfl rfl (any_of HT_.out (by kernel_rfl)) (fun _ _ _ h => h) (Or.inl ⟨by rfl, ?_⟩) ?_ ?_
                rotate_left
                · intro w'
                  go_simp
                  with_reducible rfl
                rotate_left
                · simp only [Act.put, List.setIfInBounds_toArray, List.set_cons_zero, List.set_cons_succ, i64_w, i32_w]
                  rfl
                refine pure_ (i := 6) (N := some 20) (v := ?_) (a' := ?_) #[true, true, true, true, true, true, true, false, false, false, false, false, false, false, false, false] rfl rfl (any_of HT_.out (by kernel_rfl)) (fun _ _ _ h => h) (Or.inl ⟨by rfl, ?_⟩) ?_ ?_
                rotate_left
                · intro w'
                  go_simp
                  with_reducible rfl
                rotate_left
                · simp only [Act.put, List.setIfInBounds_toArray, List.set_cons_zero, List.set_cons_succ, i64_w, i32_w]
                  rfl
                refine pure_ (i := 8) (N := some 22) (v := ?_) (a' := ?_) #[true, true, true, true, true, true, true, false, true, false, false, false, false, false, false, false] rfl rfl (any_of HT_.out (by kernel_rfl)) (fun _ _ _ h => h) (Or.inl ⟨by rfl, ?_⟩) ?_ ?_
                rotate_left
                · intro w'
                  go_simp
                  with_reducible rfl
                rotate_left
                · simp only [Act.put, List.setIfInBounds_toArray, List.set_cons_zero, List.set_cons_succ, i64_w, i32_w]
                  rfl
                refine pure_ (i := 9) (N := some 23) (v := ?_) (a' := ?_) #[true, true, true, true, true, true, true, false, true, true, false, false, false, false, false, false] rfl rfl (any_of HT_.out (by kernel_rfl)) (fun _ _ _ h => h) (Or.inl ⟨by rfl, ?_⟩) ?_ ?_
                rotate_left
                · intro w'
                  go_simp
                  with_reducible rfl
                rotate_left
                · simp only [Act.put, List.setIfInBounds_toArray, List.set_cons_zero, List.set_cons_succ, i64_w, i32_w]
                  rfl
                refine pure_ (i := 10) (N := some 24) (v := ?_) (a' := ?_) #[true, true, true, true, true, true, true, false, true, true, true, false, false, false, false, false] rfl rfl (any_of HT_.out (by kernel_rfl)) (fun _ _ _ h => h) (Or.inl ⟨by rfl, ?_⟩) ?_ ?_
                rotate_left
                · intro w'
                  go_simp
                  with_reducible rfl
                rotate_left
                · simp only [Act.put, List.setIfInBounds_toArray, List.set_cons_zero, List.set_cons_succ, i64_w, i32_w]
                  rfl
                refine take_ (i := 7) (N := some 21) (v := ?_) (a' := ?_) #[true, true, true, true, true, true, true, true, true, true, true, false, false, false, false, false] rfl rfl (take_ofW HT_.out HW_.out (by kernel_rfl)) (fun _ _ _ h => h) (Or.inl ⟨by rfl, ?_⟩) hHeld ?_ ?_
                rotate_left
                · rintro w' ⟨s0, s1⟩
                  go_simp
                  with_reducible rfl
                rotate_left
                · simp only [Act.put, List.setIfInBounds_toArray, List.set_cons_zero, List.set_cons_succ, i64_w, i32_w]
                  rfl
                refine take_ (i := 11) (N := some 25) (v := ?_) (a' := ?_) #[true, true, true, true, true, true, true, true, true, true, true, true, false, false, false, false] rfl rfl (take_ofW HT_.out HW_.out (by kernel_rfl)) (fun _ _ _ h => h) (Or.inl ⟨by rfl, ?_⟩) hHeld ?_ ?_
                rotate_left
                · rintro w' ⟨s0, s1⟩
                  go_simp
                  with_reducible rfl
                rotate_left
                · simp only [Act.put, List.setIfInBounds_toArray, List.set_cons_zero, List.set_cons_succ, i64_w, i32_w]
                  rfl
                refine pure_ (i := 12) (N := some 26) (v := ?_) (a' := ?_) #[true, true, true, true, true, true, true, true, true, true, true, true, true, false, false, false] rfl rfl (any_of HT_.out (by kernel_rfl)) (fun _ _ _ h => h) (Or.inl ⟨by rfl, ?_⟩) ?_ ?_
                rotate_left
                · intro w'
                  go_simp
                  with_reducible rfl
                rotate_left
                · simp only [Act.put, List.setIfInBounds_toArray, List.set_cons_zero, List.set_cons_succ, i64_w, i32_w]
                  rfl
                refine last_ (i := 13) (N := none) #[true, true, true, true, true, true, true, true, true, true, true, true, true, true, false, false] rfl rfl (one_of HT_.out (by kernel_rfl)) (by decide) (fun K hK => ?_)
                refine skip_ (w1 := ?_) (by rfl) rfl ?_ ?_
                rotate_left
                · go_simp
                  rfl
                refine hK.out _ _ ?_
                clear hK K
                refine pure_ (i := 14) (N := some 27) (v := ?_) (a' := ?_) #[true, true, true, true, true, true, true, true, true, true, true, true, true, true, true, false] rfl rfl (any_of HT_.out (by kernel_rfl)) (fun _ _ _ h => h) (Or.inl ⟨by rfl, ?_⟩) ?_ ?_
                rotate_left
                · intro w'
                  go_simp
                  with_reducible rfl
                rotate_left
                · simp only [Act.put, List.setIfInBounds_toArray, List.set_cons_zero, List.set_cons_succ, i64_w, i32_w]
                  rfl
                refine last_ (i := 15) (N := none) #[true, true, true, true, true, true, true, true, true, true, true, true, true, true, true, true] rfl rfl (one_of HT_.out (by kernel_rfl)) (by decide) (fun K hK => ?_)
                refine skip_ (w1 := ?_) (by rfl) rfl ?_ ?_
                rotate_left
                · go_simp
                  rfl
                refine hK.out _ _ ?_
                clear hK K
                refine done_ (done_of HT_.out (by kernel_rfl)) ?_
                try go_wp2
                (try simp only [← hl0_1])
                go_roundg k1
                case measure => have := HK1.out; omega
                case rel => exact ⟨(y113), (wrap64 (x2_1 + 1)), (wrap64 (x3_1 - 1)), (by first | rfl | (simp; done) | (simp [*]; done)), (by first | rfl | (simp; done) | (simp [*]; done)), H', ⟨by have := HK1.out; omega⟩, ⟨by (try simp only [hl0_1]); (with_reducible repeat (first | apply Kd.R_alloc | apply Kd.R_drewN | apply Kd.R_drew)); exact HQ12.out⟩, ⟨by repeat (first | (with_reducible first | exact HK.out | apply Kept.alloc | apply Kept.drewN | apply Kept.drew | refine Kept.setCell ?_ HMgo8.out _ | refine Kept.setCell ?_ HMgo8.out _) | exact HK.out)⟩, ⟨by repeat (first | (with_reducible first | exact HB.out | apply below_alloc | apply pw_below_drewN | apply below_drew1 | refine below_set ?_ GB8.out | refine below_set ?_ GB8.out) | exact HB.out)⟩⟩
              · rw [if_neg c7] at H
                exact absurd H (by simp)
            · rw [if_neg c6] at H
              exact absurd H (by simp)
          · rw [if_neg c5] at H
            exact absurd H (by simp)
        · rw [if_neg c4] at H
          exact absurd H (by simp)
      · rw [if_neg c3] at H
        have c3b0 : decide (x2_1 < x3_1) = false := decide_eq_false c3
        clear c3
        obtain rfl := Option.some.inj H
        go_wp2
        first | go_end0 | ((try simp only [Exit.inBlock, Exit.then]); refine bodyPost_ret (results_none rfl _ _ _) rfl ?_)
        exact ⟨by first | rfl | (simp [errW_none, errW_some] <;> rfl) | (simp [*, errW_none, errW_some] <;> rfl), (by first | exact (by (with_reducible repeat (first | apply Kd.R_alloc | apply Kd.R_drewN | apply Kd.R_drew)); exact HO_0.out) | (simp only [hl0_1]; exact (by (with_reducible repeat (first | apply Kd.R_alloc | apply Kd.R_drewN | apply Kd.R_drew)); exact HO_0.out))), by repeat (first | (with_reducible first | exact HB.out | apply below_alloc | apply pw_below_drewN | apply below_drew1) | exact HB.out), by repeat (first | (with_reducible first | exact HK.out | apply Kept.alloc | apply Kept.drewN | apply Kept.drew) | exact HK.out)⟩

/-! ### spec_SessionPacked: function 21 -/
def spec_SessionPacked.l0 : Nat → Int → List Int → Option (List Int)
  | 0, _, _ => none
  | k + 1, x0, x3 => if x0 > 0 then (if x3.length < 140737488355328 then (spec_SessionPacked.l0 k (x0 / 256) (x3 ++ [(x0) % 256])) else (none)) else (if x3.length < 140737488355328 then ((slices_Reverse_byte_byte.f k (x3 ++ [((x3.length : Int)) % 256])).bind fun t120 => (some t120)) else (none))
def spec_SessionPacked.f (k : Nat) (a0 : Int) : Option (List Int) := spec_SessionPacked.l0 k a0 ([] : List Int)
theorem spec_SessionPacked.mono_l : ∀ k, (∀ y0 y1, LeO (spec_SessionPacked.l0 k y0 y1) (spec_SessionPacked.l0 (k + 1) y0 y1))
  | 0 => fun _ _ r h => by simp [spec_SessionPacked.l0] at h
  | k + 1 => by
    have ih0 := spec_SessionPacked.mono_l k
    · intro y0 y1
      unfold spec_SessionPacked.l0
      repeat' first
      | (with_reducible exact ih0 _ _)
      | (with_reducible exact slices_Reverse_byte_byte.mono _ _)
      | (with_reducible exact LeO.refl _)
      | (with_reducible exact LeO.none _)
      | (with_reducible refine LeO.ite ?_ ?_)
      | (with_reducible refine LeO.bind ?_ (fun _ => ?_))
      | exact ih0 _ _
      | exact slices_Reverse_byte_byte.mono _ _
      | exact LeO.none _
      | refine LeO.ite ?_ ?_
      | refine LeO.bind ?_ (fun _ => ?_)
theorem spec_SessionPacked.mono : ∀ a0 k, LeO (spec_SessionPacked.f k a0) (spec_SessionPacked.f (k + 1) a0) := by
  intro a0 k
  have ih0 := spec_SessionPacked.mono_l k
  unfold spec_SessionPacked.f
  repeat' first
      | (with_reducible exact ih0 _ _)
      | (with_reducible exact slices_Reverse_byte_byte.mono _ _)
      | (with_reducible exact LeO.refl _)
      | (with_reducible exact LeO.none _)
      | (with_reducible refine LeO.ite ?_ ?_)
      | (with_reducible refine LeO.bind ?_ (fun _ => ?_))
      | exact ih0 _ _
      | exact slices_Reverse_byte_byte.mono _ _
      | exact LeO.none _
      | refine LeO.ite ?_ ?_
      | refine LeO.bind ?_ (fun _ => ?_)
set_option maxHeartbeats 8000000 in
set_option maxRecDepth 100000 in
theorem spec_SessionPacked.calls (k : Nat) (a0 : Int) (r : List Int) (w : World) (h : spec_SessionPacked.f k a0 = some r) :
    Calls Tryd.prog 21 #[.int .u64 a0] w fun e w' => ∃ v0_ : Value, e = .returned (v0_) ∧ Kd.R (Kd.int .u8) 5 w' w.heap.size (fun _ => True) v0_ r ∧ Below w.heap.size w w' := by
  have HB := Aside0.mk (Below.refl w.heap.size w)
  have H : (spec_SessionPacked.l0 k a0 ([] : List Int)) = some r := h
  clear h
  have H' := Aside0.mk H
  clear H
  go_enter Tryd.func21, Tryd.ntmps21
  go_wp2
  go_loopg [0, 3] k (fun kq v0 v3 w' => ∃ (x0_1 : Int) (x3_1 : List Int), v0 = .int .u64 x0_1 ∧ Aside0 (spec_SessionPacked.l0 kq x0_1 x3_1 = some r) ∧ Aside0 (kq ≤ k) ∧ Aside0 (Kd.R (Kd.int .u8) 5 w' w.heap.size (fun _ => True) v3 x3_1) ∧ Aside0 (Below w.heap.size w w'))
  case atStart => exact ⟨(a0), (([] : List Int)), (by first | rfl | (simp; done) | (simp [*]; done)), H', ⟨Nat.le_refl _⟩, ⟨by first | exact Kd.R_nil _ _ _ _ _ | exact Kd.N_nil _ _ _ _ _ | exact Kd.V_nil _ _ _ _ _ | exact Kd.Q_nil _ _ _ _ _ | exact Kd.S_nil _ _ _ _ _⟩, ⟨by repeat (first | (with_reducible first | exact HB.out | apply below_alloc | apply pw_below_drewN | apply below_drew1) | exact HB.out)⟩⟩
  case round =>
    clear H'
    obtain ⟨x0_1, x3_1, rfl, HA, HK1, HO_3, HB⟩ := hrel
    cases gk with
    | zero => exact absurd HA.out (by simp [spec_SessionPacked.l0])
    | succ k1 =>
      have H := HA.out
      clear HA
      simp only [spec_SessionPacked.l0] at H
      by_cases c2 : x0_1 > 0
      · rw [if_pos c2] at H
        have c2b0 : decide (0 < x0_1) = true := decide_eq_true c2
        clear c2
        by_cases c3 : x3_1.length < 140737488355328
        · rw [if_pos c3] at H
          have LMc3 := Aside0.mk c3
          clear c3
          obtain ⟨y114, hy114⟩ : ∃ y_ : List Int, y_ = (x3_1 ++ [(x0_1) % 256]) := ⟨_, rfl⟩
          replace H : (spec_SessionPacked.l0 k1 (x0_1 / 256) y114) = some r := by first | (rw [hy114]; with_reducible exact H) | (have H2_ := (Option.bind_some _ _).symm.trans H; rw [hy114]; with_reducible exact H2_) | (have H2_ := (Option.bind_some _ _).symm.trans H; with_reducible exact H2_) | with_reducible exact H | (rw [hy114]; exact H) | exact H
          have Ny114 := Aside0.mk hy114
          clear hy114
          have H' := Aside0.mk H
          clear H
          go_wp2_with (first | ((with_reducible refine gate_builtin (b := .append) (xs := #[.tmp 8, .tmp 11]) rfl ?_); at_builtin; refine Kd.R_append (Kd.int .u8) (w0 := w) w.heap.size rfl (.tmp 8) (.tmp 11) 22 5 (.int .u8 0) 1 rfl Tryd.underlying22 info5 rfl (by decide) (by omega) u3 x3_1 ((x0_1) % 256) [.int .u8 ((x0_1) % 256)] (fun _ => True) (fun _ => False) rfl rfl ?aP (fun _ hk => hk.elim) ?aF ?aO ?aB ?aS ?aL ?_; (case aP => exact rfl); (case aB => exact (by repeat (first | (with_reducible first | exact HB.out | apply below_alloc | apply pw_below_drewN | apply below_drew1) | exact HB.out))); (case aF => exact (fun _ _ => trivial)); (case aO => exact (by (with_reducible repeat (first | apply Kd.R_alloc | apply Kd.R_drewN | apply Kd.R_drew)); exact HO_3.out)); (case aS => exact (below_size (by repeat (first | (with_reducible first | exact HB.out | apply below_alloc | apply pw_below_drewN | apply below_drew1) | exact HB.out)))); (case aL => have := LMc3.out; omega); intro v115 w4 ho hb hg hat; rw [← Ny114.out] at ho; have n0_ := Aside0.mk (hb); have n1_ := Aside0.mk (ho); clear HB; clear HO_3; have HB := n0_; have HO116 := n1_; clear n0_ n1_; clear ho hb hg hat))
          go_roundg k1
          case measure => have := HK1.out; omega
          case rel => exact ⟨(x0_1 / 256), (y114), (by first | rfl | (simp; done) | (simp [*]; done)), H', ⟨by have := HK1.out; omega⟩, ⟨by (with_reducible repeat (first | apply Kd.R_alloc | apply Kd.R_drewN | apply Kd.R_drew)); exact HO116.out⟩, ⟨by repeat (first | (with_reducible first | exact HB.out | apply below_alloc | apply pw_below_drewN | apply below_drew1) | exact HB.out)⟩⟩
        · rw [if_neg c3] at H
          exact absurd H (by simp)
      · rw [if_neg c2] at H
        have c2b0 : decide (0 < x0_1) = false := decide_eq_false c2
        clear c2
        by_cases c5 : x3_1.length < 140737488355328
        · rw [if_pos c5] at H
          have LMc5 := Aside0.mk c5
          clear c5
          obtain ⟨y117, hy117⟩ : ∃ y_ : List Int, y_ = (x3_1 ++ [((x3_1.length : Int)) % 256]) := ⟨_, rfl⟩
          replace H : ((slices_Reverse_byte_byte.f k1 y117).bind fun t120 => (some t120)) = some r := by first | (rw [hy117]; with_reducible exact H) | (have H2_ := (Option.bind_some _ _).symm.trans H; rw [hy117]; with_reducible exact H2_) | (have H2_ := (Option.bind_some _ _).symm.trans H; with_reducible exact H2_) | with_reducible exact H | (rw [hy117]; exact H) | exact H
          have Ny117 := Aside0.mk hy117
          clear hy117
          replace H := Option.bind_eq_some_iff.mp H
          obtain ⟨t120, A60, H⟩ := H
          replace H : (some t120) = some r := H
          have A6 := Aside0.mk A60
          clear A60
          obtain rfl := Option.some.inj H
          obtain ⟨Ao7, co7, eo7⟩ := Kd.R_slice HO_3.out
          subst eo7
          go_wp2_with (first | ((with_reducible refine gate_builtin (b := .append) (xs := #[.tmp 13, .tmp 17]) rfl ?_); at_builtin; refine Kd.R_append (Kd.int .u8) (w0 := w) w.heap.size rfl (.tmp 13) (.tmp 17) 22 5 (.int .u8 0) 1 rfl Tryd.underlying22 info5 rfl (by decide) (by omega) (.slice Ao7 x3_1.length co7) x3_1 (((x3_1.length : Int)) % 256) [.int .u8 (((x3_1.length : Int)) % 256)] (fun _ => True) (fun _ => False) rfl rfl ?aP (fun _ hk => hk.elim) ?aF ?aO ?aB ?aS ?aL ?_; (case aP => exact rfl); (case aB => exact (by repeat (first | (with_reducible first | exact HB.out | apply below_alloc | apply pw_below_drewN | apply below_drew1) | exact HB.out))); (case aF => exact (fun _ _ => trivial)); (case aO => exact (by (with_reducible repeat (first | apply Kd.R_alloc | apply Kd.R_drewN | apply Kd.R_drew)); exact HO_3.out)); (case aS => exact (below_size (by repeat (first | (with_reducible first | exact HB.out | apply below_alloc | apply pw_below_drewN | apply below_drew1) | exact HB.out)))); (case aL => have := LMc5.out; omega); intro v118 w8 ho hb hg hat; rw [← Ny117.out] at ho; have n0_ := Aside0.mk (hb); have n1_ := Aside0.mk (ho); clear HB; clear HO_3; have HB := n0_; have HO119 := n1_; clear n0_ n1_; clear ho hb hg hat; obtain ⟨Ao9, co9, eo9⟩ := Kd.R_slice HO119.out; subst eo9) | ((with_reducible refine gate_callee (f := 23) rfl ?_); refine goesL_ (some 20) rfl rfl Tryd.func23 (by kernel_rfl) rfl #[.slice Ao9 y117.length co9] rfl (by (try simp only [List.map_toArray, List.map_cons, List.map_nil]); first | done | rfl | (simp only [List.length_drop, List.length_take]; rfl)) ?_; (with_reducible refine (slices_Reverse_byte_byte.calls k1 (fun k_ => some k_ = (.slice Ao9 y117.length co9 : Value).ownBlock) (.slice Ao9 y117.length co9) y117 t120 w _ ?side1 ?side2 A6.out).mono ?_); (case side1 => repeat (first | (with_reducible first | exact HB.out | apply below_alloc | apply pw_below_drewN | apply below_drew1) | exact HB.out)); (case side2 => exact Kd.R_tight rfl HO119.out); rintro e w10 ⟨rfl, hy0, hb, hkp⟩; refine ⟨_, rfl, ?_⟩; have n0_ := Aside0.mk (Kd.R_reok rfl hy0 (fun k_ e_ => HO119.out.1 k_ e_)); have n1_ := Aside0.mk (hb); clear HO119; clear HB; have HO119 := n0_; have HB := n1_; clear n0_ n1_; (try clear hb); (try clear hkp); (try clear hy0)))
          go_ret
          exact ⟨_, by first | rfl | (simp [errW_none, errW_some] <;> rfl) | (simp [*, errW_none, errW_some] <;> rfl), by (with_reducible repeat (first | apply Kd.R_alloc | apply Kd.R_drewN | apply Kd.R_drew)); exact HO119.out, by repeat (first | (with_reducible first | exact HB.out | apply below_alloc | apply pw_below_drewN | apply below_drew1) | exact HB.out)⟩
        · rw [if_neg c5] at H
          exact absurd H (by simp)

-- NOT PRINTED: function 6 (laws_FnSessionMinus)

/-! ### spec_SessionPlain: function 22 -/
def spec_SessionPlain.l0 : Nat → Int → Bool → List Int → Int → Int → Option (List Int)
  | 0, _, _, _, _, _ => none
  | k + 1, x0, x2, x7, x8, x9 => if x9 < x8 then (if x7.length < 140737488355328 then (spec_SessionPlain.l0 k (x0 / 256) x2 (x7 ++ [(x0) % 256]) x8 (wrap64 (x9 + 1))) else (none)) else (if x2 = true then ((slices_Reverse_byte_byte.f k x7).bind fun t132 => (some t132)) else (some x7))
def spec_SessionPlain.f (k : Nat) (a0 : Int) (a1 : Int) (a2 : Bool) : Option (List Int) := spec_SessionPlain.l0 k a0 a2 ([] : List Int) a1 0
theorem spec_SessionPlain.mono_l : ∀ k, (∀ y0 y1 y2 y3 y4, LeO (spec_SessionPlain.l0 k y0 y1 y2 y3 y4) (spec_SessionPlain.l0 (k + 1) y0 y1 y2 y3 y4))
  | 0 => fun _ _ _ _ _ r h => by simp [spec_SessionPlain.l0] at h
  | k + 1 => by
    have ih0 := spec_SessionPlain.mono_l k
    · intro y0 y1 y2 y3 y4
      unfold spec_SessionPlain.l0
      repeat' first
      | (with_reducible exact ih0 _ _ _ _ _)
      | (with_reducible exact slices_Reverse_byte_byte.mono _ _)
      | (with_reducible exact LeO.refl _)
      | (with_reducible exact LeO.none _)
      | (with_reducible refine LeO.ite ?_ ?_)
      | (with_reducible refine LeO.bind ?_ (fun _ => ?_))
      | exact ih0 _ _ _ _ _
      | exact slices_Reverse_byte_byte.mono _ _
      | exact LeO.none _
      | refine LeO.ite ?_ ?_
      | refine LeO.bind ?_ (fun _ => ?_)
theorem spec_SessionPlain.mono : ∀ a0 a1 a2 k, LeO (spec_SessionPlain.f k a0 a1 a2) (spec_SessionPlain.f (k + 1) a0 a1 a2) := by
  intro a0 a1 a2 k
  have ih0 := spec_SessionPlain.mono_l k
  unfold spec_SessionPlain.f
  repeat' first
      | (with_reducible exact ih0 _ _ _ _ _)
      | (with_reducible exact slices_Reverse_byte_byte.mono _ _)
      | (with_reducible exact LeO.refl _)
      | (with_reducible exact LeO.none _)
      | (with_reducible refine LeO.ite ?_ ?_)
      | (with_reducible refine LeO.bind ?_ (fun _ => ?_))
      | exact ih0 _ _ _ _ _
      | exact slices_Reverse_byte_byte.mono _ _
      | exact LeO.none _
      | refine LeO.ite ?_ ?_
      | refine LeO.bind ?_ (fun _ => ?_)
set_option maxHeartbeats 8000000 in
set_option maxRecDepth 100000 in
theorem spec_SessionPlain.calls (k : Nat) (a0 : Int) (a1 : Int) (a2 : Bool) (r : List Int) (w : World) (h : spec_SessionPlain.f k a0 a1 a2 = some r) :
    Calls Tryd.prog 22 #[.int .u64 a0, .int .i64 a1, .bool a2] w fun e w' => ∃ v0_ : Value, e = .returned (v0_) ∧ Kd.R (Kd.int .u8) 5 w' w.heap.size (fun _ => True) v0_ r ∧ Below w.heap.size w w' := by
  have HB := Aside0.mk (Below.refl w.heap.size w)
  have H : (spec_SessionPlain.l0 k a0 a2 ([] : List Int) a1 0) = some r := h
  clear h
  have H' := Aside0.mk H
  clear H
  go_enter Tryd.func22, Tryd.ntmps22
  go_wp2
  go_loopg [0, 7, 9] k (fun kq v0 v7 v9 w' => ∃ (x0_1 : Int) (x7_1 : List Int) (x9_1 : Int), v0 = .int .u64 x0_1 ∧ v9 = .int .i64 x9_1 ∧ Aside0 (spec_SessionPlain.l0 kq x0_1 a2 x7_1 a1 x9_1 = some r) ∧ Aside0 (kq ≤ k) ∧ Aside0 (Kd.R (Kd.int .u8) 5 w' w.heap.size (fun _ => True) v7 x7_1) ∧ Aside0 (Below w.heap.size w w'))
  case atStart => exact ⟨(a0), (([] : List Int)), (0), (by first | rfl | (simp; done) | (simp [*]; done)), (by first | rfl | (simp; done) | (simp [*]; done)), H', ⟨Nat.le_refl _⟩, ⟨by first | exact Kd.R_nil _ _ _ _ _ | exact Kd.N_nil _ _ _ _ _ | exact Kd.V_nil _ _ _ _ _ | exact Kd.Q_nil _ _ _ _ _ | exact Kd.S_nil _ _ _ _ _⟩, ⟨by repeat (first | (with_reducible first | exact HB.out | apply below_alloc | apply pw_below_drewN | apply below_drew1) | exact HB.out)⟩⟩
  case round =>
    clear H'
    try clear c2
    try clear p2
    obtain ⟨x0_1, x7_1, x9_1, rfl, rfl, HA, HK1, HO_7, HB⟩ := hrel
    cases gk with
    | zero => exact absurd HA.out (by simp [spec_SessionPlain.l0])
    | succ k1 =>
      have H := HA.out
      clear HA
      simp only [spec_SessionPlain.l0] at H
      by_cases c4 : x9_1 < a1
      · rw [if_pos c4] at H
        have c4b0 : decide (x9_1 < a1) = true := decide_eq_true c4
        clear c4
        by_cases c5 : x7_1.length < 140737488355328
        · rw [if_pos c5] at H
          have LMc5 := Aside0.mk c5
          clear c5
          obtain ⟨y129, hy129⟩ : ∃ y_ : List Int, y_ = (x7_1 ++ [(x0_1) % 256]) := ⟨_, rfl⟩
          replace H : (spec_SessionPlain.l0 k1 (x0_1 / 256) a2 y129 a1 (wrap64 (x9_1 + 1))) = some r := by first | (rw [hy129]; with_reducible exact H) | (have H2_ := (Option.bind_some _ _).symm.trans H; rw [hy129]; with_reducible exact H2_) | (have H2_ := (Option.bind_some _ _).symm.trans H; with_reducible exact H2_) | with_reducible exact H | (rw [hy129]; exact H) | exact H
          have Ny129 := Aside0.mk hy129
          clear hy129
          have H' := Aside0.mk H
          clear H
          go_wp2_with (first | ((with_reducible refine gate_builtin (b := .append) (xs := #[.tmp 11, .tmp 14]) rfl ?_); at_builtin; refine Kd.R_append (Kd.int .u8) (w0 := w) w.heap.size rfl (.tmp 11) (.tmp 14) 22 5 (.int .u8 0) 1 rfl Tryd.underlying22 info5 rfl (by decide) (by omega) u7 x7_1 ((x0_1) % 256) [.int .u8 ((x0_1) % 256)] (fun _ => True) (fun _ => False) rfl rfl ?aP (fun _ hk => hk.elim) ?aF ?aO ?aB ?aS ?aL ?_; (case aP => exact rfl); (case aB => exact (by repeat (first | (with_reducible first | exact HB.out | apply below_alloc | apply pw_below_drewN | apply below_drew1) | exact HB.out))); (case aF => exact (fun _ _ => trivial)); (case aO => exact (by (with_reducible repeat (first | apply Kd.R_alloc | apply Kd.R_drewN | apply Kd.R_drew)); exact HO_7.out)); (case aS => exact (below_size (by repeat (first | (with_reducible first | exact HB.out | apply below_alloc | apply pw_below_drewN | apply below_drew1) | exact HB.out)))); (case aL => have := LMc5.out; omega); intro v130 w6 ho hb hg hat; rw [← Ny129.out] at ho; have n0_ := Aside0.mk (hb); have n1_ := Aside0.mk (ho); clear HB; clear HO_7; have HB := n0_; have HO131 := n1_; clear n0_ n1_; clear ho hb hg hat))
          go_roundg k1
          case measure => have := HK1.out; omega
          case rel => exact ⟨(x0_1 / 256), (y129), (wrap64 (x9_1 + 1)), (by first | rfl | (simp; done) | (simp [*]; done)), (by first | rfl | (simp; done) | (simp [*]; done)), H', ⟨by have := HK1.out; omega⟩, ⟨by (with_reducible repeat (first | apply Kd.R_alloc | apply Kd.R_drewN | apply Kd.R_drew)); exact HO131.out⟩, ⟨by repeat (first | (with_reducible first | exact HB.out | apply below_alloc | apply pw_below_drewN | apply below_drew1) | exact HB.out)⟩⟩
        · rw [if_neg c5] at H
          exact absurd H (by simp)
      · rw [if_neg c4] at H
        have c4b0 : decide (x9_1 < a1) = false := decide_eq_false c4
        clear c4
        by_cases c7 : a2 = true
        · subst c7
          have H1 : ((slices_Reverse_byte_byte.f k1 x7_1).bind fun t132 => (some t132)) = some r := by rw [if_pos rfl] at H; exact H
          clear H
          have H := H1
          clear H1
          replace H := Option.bind_eq_some_iff.mp H
          obtain ⟨t132, A80, H⟩ := H
          replace H : (some t132) = some r := H
          have A8 := Aside0.mk A80
          clear A80
          obtain rfl := Option.some.inj H
          obtain ⟨Ao9, co9, eo9⟩ := Kd.R_slice HO_7.out
          subst eo9
          go_wp2_with (first | ((with_reducible refine gate_callee (f := 23) rfl ?_); refine goesL_ (some 21) rfl rfl Tryd.func23 (by kernel_rfl) rfl #[.slice Ao9 x7_1.length co9] rfl (by (try simp only [List.map_toArray, List.map_cons, List.map_nil]); first | done | rfl | (simp only [List.length_drop, List.length_take]; rfl)) ?_; (with_reducible refine (slices_Reverse_byte_byte.calls k1 (fun k_ => some k_ = (.slice Ao9 x7_1.length co9 : Value).ownBlock) (.slice Ao9 x7_1.length co9) x7_1 t132 w _ ?side1 ?side2 A8.out).mono ?_); (case side1 => repeat (first | (with_reducible first | exact HB.out | apply below_alloc | apply pw_below_drewN | apply below_drew1) | exact HB.out)); (case side2 => exact Kd.R_tight rfl HO_7.out); rintro e w10 ⟨rfl, hy0, hb, hkp⟩; refine ⟨_, rfl, ?_⟩; have n0_ := Aside0.mk (Kd.R_reok rfl hy0 (fun k_ e_ => HO_7.out.1 k_ e_)); have n1_ := Aside0.mk (hb); clear HO_7; clear HB; have HO_7 := n0_; have HB := n1_; clear n0_ n1_; (try clear hb); (try clear hkp); (try clear hy0)))
          go_ret
          exact ⟨_, by first | rfl | (simp [errW_none, errW_some] <;> rfl) | (simp [*, errW_none, errW_some] <;> rfl), by (with_reducible repeat (first | apply Kd.R_alloc | apply Kd.R_drewN | apply Kd.R_drew)); exact HO_7.out, by repeat (first | (with_reducible first | exact HB.out | apply below_alloc | apply pw_below_drewN | apply below_drew1) | exact HB.out)⟩
        · replace c7 := Bool.eq_false_iff.mpr c7
          subst c7
          have H1 : (some x7_1) = some r := by rw [if_neg (show ¬ (false = true) by decide)] at H; exact H
          clear H
          have H := H1
          clear H1
          obtain rfl := Option.some.inj H
          go_wp2
          go_ret
          exact ⟨_, by first | rfl | (simp [errW_none, errW_some] <;> rfl) | (simp [*, errW_none, errW_some] <;> rfl), by (with_reducible repeat (first | apply Kd.R_alloc | apply Kd.R_drewN | apply Kd.R_drew)); exact HO_7.out, by repeat (first | (with_reducible first | exact HB.out | apply below_alloc | apply pw_below_drewN | apply below_drew1) | exact HB.out)⟩

-- NOT PRINTED: function 7 (laws_FnSessionTurned)

-- GIVEN: function 19 (bytes_Equal)

-- NOT PRINTED: function 54 (slices_Grow_byte_byte)

-- NOT PRINTED: function 35 (slices_Concat_byte_byte)

-- NOT PRINTED: function 11 (laws_FnSessionMinusBack)

end Go.Proofs.YtdnahdddkagfhaaDoor.ZM
