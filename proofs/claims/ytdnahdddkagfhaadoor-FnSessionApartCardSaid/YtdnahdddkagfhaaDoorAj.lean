/- Plain: what a step writes tells what the part holds; a message's parts are told by its bytes. -/
import Derived.Test.YtdnahdddkagfhaaDoorQb
namespace Go.Proofs.YtdnahdddkagfhaaDoor.X
open Go.RowKit Go.Proofs.YtdnahdddkagfhaaDoorW.PrintWords Go.Proofs.YtdnahdddkagfhaaDoorW.PrintMore
set_option linter.unusedVariables false
set_option linter.unusedSimpArgs false
namespace Dg
theorem packed_pre {x y : Int} {r s : List Int} (hx0 : 0 ≤ x) (hx : x < 256 ^ 8) (hy0 : 0 ≤ y) (hy : y < 256 ^ 8) (h : packed x ++ r = packed y ++ s) : x = y ∧ r = s := by
  unfold packed at h
  rw [List.cons_append, List.cons_append] at h
  obtain ⟨h1, h2⟩ := List.cons.inj h
  obtain ⟨h3, h4⟩ := List.append_inj h2 (by rw [List.length_reverse, List.length_reverse]; omega)
  refine ⟨dgF_inj 8 x y hx0 hy0 hx hy ?_, h4⟩
  have h5 := congrArg List.reverse h3
  rw [List.reverse_reverse, List.reverse_reverse] at h5
  exact h5
theorem packed_head {x : Int} (h0 : 0 < x) (h1 : x < 256 ^ 8) : ∃ a t, packed x = a :: t ∧ a ≠ 0 := by
  refine ⟨_, _, rfl, ?_⟩
  have h := dgF_pos 8 x h0 h1
  have : (dg x).length ≠ 0 := fun e => h (List.eq_nil_of_length_eq_zero e)
  omega
theorem nat_lt8 {n : Nat} (h : n ≤ 100000) : (n : Int) < 256 ^ 8 := by
  have : (256 : Int) ^ 8 = 18446744073709551616 := by decide
  omega
theorem headB_pre {big : Bool} {n m : Nat} {r s : List Int} (hn : n ≤ 100000) (hm : m ≤ 100000) (h : headB big n ++ r = headB big m ++ s) : n = m ∧ r = s := by
  unfold headB at h
  cases big
  · simp only [Bool.false_eq_true, if_false, List.cons_append, List.nil_append] at h
    obtain ⟨h1, h2⟩ := List.cons.inj h
    exact ⟨by omega, h2⟩
  · simp only [if_true] at h
    obtain ⟨h1, h2⟩ := packed_pre (by omega) (nat_lt8 hn) (by omega) (nat_lt8 hm) h
    exact ⟨by omega, h2⟩
theorem headB_head (big : Bool) {n : Nat} (h0 : 0 < n) (hn : n ≤ 100000) : ∃ a t, headB big n = a :: t ∧ a ≠ 0 := by
  unfold headB
  cases big
  · exact ⟨_, [], rfl, by omega⟩
  · exact packed_head (by omega) (nat_lt8 hn)
theorem chunks_pre {big : Bool} {c : Nat} (hc1 : 1 ≤ c) (hc2 : c ≤ 252) : ∀ (k k' : Nat) (x y r s : List Int), x.length ≤ k → y.length ≤ k' → chunksF big c k x ++ 0 :: r = chunksF big c k' y ++ 0 :: s → x = y ∧ r = s := by
  have hne : ∀ (k : Nat) (x r : List Int), x.length ≤ k → x ≠ [] → ∃ a t, chunksF big c k x ++ 0 :: r = a :: t ∧ a ≠ 0 := by
    intro k x r hk hx
    cases k with
    | zero => exact absurd (List.eq_nil_of_length_eq_zero (by omega)) hx
    | succ k =>
      have hp : 0 < x.length := List.length_pos_iff.2 hx
      obtain ⟨a, t, e, ha⟩ := headB_head big (n := (x.take c).length) (by rw [List.length_take]; omega) (by rw [List.length_take]; omega)
      rw [chunksF, if_neg hx, e]
      exact ⟨a, _, rfl, ha⟩
  have hnil : ∀ k, chunksF big c k [] = [] := fun k => by cases k <;> simp [chunksF]
  intro k
  induction k with
  | zero =>
    intro k' x y r s hx hy h
    obtain rfl := List.eq_nil_of_length_eq_zero (Nat.le_zero.1 hx)
    by_cases hy0 : y = []
    · subst hy0
      rw [hnil, hnil] at h
      exact ⟨rfl, (List.cons.inj h).2⟩
    · obtain ⟨a, t, e, ha⟩ := hne k' y s hy hy0
      rw [e, hnil] at h
      exact absurd (List.cons.inj h).1.symm ha
  | succ k ih =>
    intro k' x y r s hx hy h
    by_cases hx0 : x = []
    · subst hx0
      by_cases hy0 : y = []
      · subst hy0
        rw [hnil, hnil] at h
        exact ⟨rfl, (List.cons.inj h).2⟩
      · obtain ⟨a, t, e, ha⟩ := hne k' y s hy hy0
        rw [e, hnil] at h
        exact absurd (List.cons.inj h).1.symm ha
    · by_cases hy0 : y = []
      · subst hy0
        obtain ⟨a, t, e, ha⟩ := hne (k + 1) x r hx hx0
        rw [e, hnil] at h
        exact absurd (List.cons.inj h).1 ha
      · cases k' with
        | zero => exact absurd (List.eq_nil_of_length_eq_zero (Nat.le_zero.1 hy)) hy0
        | succ k' =>
          have hxp : 0 < x.length := List.length_pos_iff.2 hx0
          have hyp : 0 < y.length := List.length_pos_iff.2 hy0
          rw [chunksF, if_neg hx0, chunksF, if_neg hy0, List.append_assoc, List.append_assoc, List.append_assoc, List.append_assoc] at h
          obtain ⟨h1, h2⟩ := headB_pre (by rw [List.length_take]; omega) (by rw [List.length_take]; omega) h
          obtain ⟨h3, h4⟩ := List.append_inj h2 h1
          obtain ⟨h5, h6⟩ := ih k' (x.drop c) (y.drop c) r s (by rw [List.length_drop]; omega) (by rw [List.length_drop]; omega) h4
          refine ⟨?_, h6⟩
          rw [← List.take_append_drop c x, ← List.take_append_drop c y, h3, h5]
theorem clrB_pre {big : Bool} {c : Nat} (hc1 : 1 ≤ c) (hc2 : c ≤ 252) {x y r s : List Int} (h : clrB big c x ++ r = clrB big c y ++ s) : x = y ∧ r = s := by
  unfold clrB at h
  split at h <;> split at h <;> rename_i ha hb
  · rw [List.cons_append, List.cons_append] at h
    obtain ⟨h1, h2⟩ := List.cons.inj h
    exact List.append_inj h2 (by omega)
  · rw [List.cons_append, List.cons_append] at h
    have := (List.cons.inj h).1
    omega
  · rw [List.cons_append, List.cons_append] at h
    have := (List.cons.inj h).1
    omega
  · rw [List.cons_append, List.cons_append, List.append_assoc, List.append_assoc] at h
    exact chunks_pre hc1 hc2 _ _ x y r s (Nat.le_refl _) (Nat.le_refl _) (List.cons.inj h).2
theorem dlcB_pre {big : Bool} {c : Nat} (hc1 : 1 ≤ c) (hc2 : c ≤ 252) {x y r s : List Int} (hx : x.length ≤ 100000) (hy : y.length ≤ 100000) (h : dlcB big c x ++ r = dlcB big c y ++ s) : x = y ∧ r = s := by
  unfold dlcB at h
  have hne : ∀ (z u : List Int), z.length ≤ 100000 → z ≠ [] → ∃ a t, packed (z.length : Int) ++ u = a :: t ∧ a ≠ 0 := by
    intro z u hz h0
    have hp : 0 < z.length := List.length_pos_iff.2 h0
    obtain ⟨a, t, e, ha⟩ := packed_head (x := (z.length : Int)) (by omega) (nat_lt8 hz)
    exact ⟨a, t ++ u, by rw [e]; rfl, ha⟩
  split at h <;> split at h <;> rename_i ha hb
  · exact ⟨by rw [ha, hb], (List.cons.inj h).2⟩
  · rw [List.append_assoc] at h
    obtain ⟨a, t, e, k⟩ := hne y _ hy hb
    rw [e] at h
    exact absurd (List.cons.inj h).1.symm k
  · rw [List.append_assoc] at h
    obtain ⟨a, t, e, k⟩ := hne x _ hx ha
    rw [e] at h
    exact absurd (List.cons.inj h).1 k
  · rw [List.append_assoc, List.append_assoc] at h
    exact clrB_pre hc1 hc2 (packed_pre (by omega) (nat_lt8 hx) (by omega) (nat_lt8 hy) h).2
theorem fixedB_inj {x y : List Int} (h : fixedB x = fixedB y) : x = y := by
  unfold fixedB at h
  split at h <;> split at h <;> rename_i ha hb
  · exact (List.cons.inj h).2
  · have := (List.cons.inj h).1; omega
  · have := (List.cons.inj h).1; omega
  · exact (List.append_inj (List.cons.inj h).2 (by rw [List.length_reverse, List.length_reverse, plainL_len, plainL_len])).2
theorem plainL_inj : ∀ (j : Nat) (x y : Int), 0 ≤ x → 0 ≤ y → x < 256 ^ j → y < 256 ^ j → plainL j x = plainL j y → x = y
  | 0, x, y, hx0, hy0, hx, hy, _ => by rw [Int.pow_zero] at hx hy; omega
  | j + 1, x, y, hx0, hy0, hx, hy, h => by
    rw [Int.pow_succ] at hx hy
    rw [plainL, plainL] at h
    obtain ⟨h1, h2⟩ := List.cons.inj h
    have := plainL_inj j (x / 256) (y / 256) (by omega) (by omega) (by omega) (by omega) h2
    omega
end Dg
namespace Ses
theorem numB_inj {two be comp : Bool} {n m s : Int} (hn : OkN n s) (hm : OkN m s) (h : numB two n s be comp = numB two m s be comp) : n = m := by
  have hp : (256 : Int) ^ 8 = 18446744073709551616 := by decide
  have hp2 : (256 : Int) ^ 2 = 65536 := by decide
  have hp4 : (256 : Int) ^ 4 = 4294967296 := by decide
  have hl : ∀ k : Int, OkN k s → 0 ≤ k ∧ k < 256 ^ 8 ∧ k < 256 ^ s.toNat := by
    intro k hk
    obtain ⟨h0, h1 | h1 | h1 | h1⟩ := hk
    · obtain ⟨rfl, h1⟩ := h1; exact ⟨h0, by omega, by show k < 256 ^ 1; omega⟩
    · obtain ⟨rfl, h1⟩ := h1; exact ⟨h0, by omega, by show k < 256 ^ 2; omega⟩
    · obtain ⟨rfl, h1⟩ := h1; exact ⟨h0, by omega, by show k < 256 ^ 4; omega⟩
    · obtain ⟨rfl, h1⟩ := h1; exact ⟨h0, by omega, by show k < 256 ^ 8; omega⟩
  obtain ⟨n0, n1, n2⟩ := hl n hn
  obtain ⟨m0, m1, m2⟩ := hl m hm
  unfold numB at h
  split at h
  · exact (Dg.packed_pre n0 n1 m0 m1 (r := []) (s := []) (by rw [List.append_nil, List.append_nil]; exact h)).1
  · split at h
    · exact Dg.plainL_inj _ n m n0 m0 n2 m2 (by have := congrArg List.reverse h; rw [List.reverse_reverse, List.reverse_reverse] at this; exact this)
    · exact Dg.plainL_inj _ n m n0 m0 n2 m2 h
/-- What is read of a step that was written: data, other data, number. -/
def seen (p : PS) : List Int × List Int × Int :=
  if p.kind = 0 then (p.data, [], 0) else if p.kind = 1 then (p.data, [], 0) else if p.kind = 2 then ([], [], p.num) else if p.kind = 3 then ([], [], p.uns)
  else if p.kind = 4 then (p.data, p.other, p.flag) else if p.kind = 5 then (p.data, [], 0) else ([], [], 0)
theorem stepB_seen {big : Bool} {c : Nat} (hc1 : 1 ≤ c) (hc2 : c ≤ 252) {p q : PS} (hp : OkP p) (hq : OkP q) (hk : q.kind = p.kind) (hs : q.size = p.size) (hb : q.big = p.big) (hcm : q.comp = p.comp) : stepB big c p = stepB big c q ↔ seen p = seen q := by
  unfold stepB seen
  rw [hk, hs, hb, hcm]
  have h8 : (256 : Int) ^ 8 = 18446744073709551616 := by decide
  have n8 : ∀ x : Int, x ≤ 255 → x < 256 ^ 8 := fun x hx => by omega
  by_cases h0 : p.kind = 0
  · simp only [if_pos h0]
    exact ⟨fun h => by rw [h], fun h => (Prod.mk.inj h).1⟩
  by_cases h1 : p.kind = 1
  · simp only [if_neg h0, if_pos h1]
    exact ⟨fun h => by rw [(Dg.clrB_pre hc1 hc2 (x := p.data) (y := q.data) (r := []) (s := []) (by rw [List.append_nil, List.append_nil]; exact h)).1], fun h => by rw [(Prod.mk.inj h).1]⟩
  by_cases h2 : p.kind = 2
  · simp only [if_neg h0, if_neg h1, if_pos h2]
    exact ⟨fun h => by rw [numB_inj (hp.num h2).1 (hs ▸ (hq.num (hk.trans h2)).1) h], fun h => by rw [(Prod.mk.inj (Prod.mk.inj h).2).2]⟩
  by_cases h3 : p.kind = 3
  · simp only [if_neg h0, if_neg h1, if_neg h2, if_pos h3]
    exact ⟨fun h => by rw [numB_inj (hp.uns h3) (hs ▸ hq.uns (hk.trans h3)) h], fun h => by rw [(Prod.mk.inj (Prod.mk.inj h).2).2]⟩
  by_cases h4 : p.kind = 4
  · simp only [if_neg h0, if_neg h1, if_neg h2, if_neg h3, if_pos h4]
    constructor
    · intro h
      rw [List.append_assoc, List.append_assoc] at h
      obtain ⟨e1, h⟩ := Dg.dlcB_pre hc1 hc2 (by have := hp.data; omega) (by have := hq.data; omega) h
      obtain ⟨e2, h⟩ := Dg.dlcB_pre hc1 hc2 (by have := hp.other; omega) (by have := hq.other; omega) h
      have e3 := (Dg.packed_pre hp.flag.1 (n8 _ hp.flag.2) hq.flag.1 (n8 _ hq.flag.2) (r := []) (s := []) (by rw [List.append_nil, List.append_nil]; exact h)).1
      rw [e1, e2, e3]
    · intro h
      rw [(Prod.mk.inj h).1, (Prod.mk.inj (Prod.mk.inj h).2).1, (Prod.mk.inj (Prod.mk.inj h).2).2]
  by_cases h5 : p.kind = 5
  · simp only [if_neg h0, if_neg h1, if_neg h2, if_neg h3, if_neg h4, if_pos h5]
    exact ⟨fun h => by rw [Dg.fixedB_inj h], fun h => by rw [(Prod.mk.inj h).1]⟩
  · simp only [if_neg h0, if_neg h1, if_neg h2, if_neg h3, if_neg h4, if_neg h5]
/-- A message in which one part is another one. -/
theorem msg_set {α : Type} (f : α → List Int) (l : List α) (k : Nat) (hk : k < l.length) (q : α) : l.flatMap f = (l.set k q).flatMap f ↔ f l[k] = f q := by
  have e1 : l = l.take k ++ l[k] :: l.drop (k + 1) := by rw [← List.drop_eq_getElem_cons hk, List.take_append_drop]
  have e2 : l.set k q = l.take k ++ q :: l.drop (k + 1) := List.set_eq_take_append_cons_drop.trans (by rw [if_pos hk])
  have h1 : l.flatMap f = (l.take k).flatMap f ++ (f l[k] ++ (l.drop (k + 1)).flatMap f) := by
    conv => lhs; rw [e1]
    rw [List.flatMap_append, List.flatMap_cons]
  rw [h1, e2, List.flatMap_append, List.flatMap_cons]
  constructor
  · intro h
    exact List.append_cancel_right (List.append_cancel_left h)
  · intro h
    rw [h]
end Ses
end Go.Proofs.YtdnahdddkagfhaaDoor.X
