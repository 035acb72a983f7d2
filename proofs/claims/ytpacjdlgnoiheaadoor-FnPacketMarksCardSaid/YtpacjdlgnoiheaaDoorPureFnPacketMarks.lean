/- The pure law of FnPacketMarks. -/
import Derived.Test.YtpacjdlgnoiheaaDoorZM2
namespace Go.Proofs.YtpacjdlgnoiheaaDoor.Pure
open Go Go.RowKit Go.Proofs.YtpacjdlgnoiheaaDoor.X Go.Proofs.YtpacjdlgnoiheaaDoorW.PrintWords
set_option linter.unusedVariables false
theorem w64_in (n : Int) (h : -9223372036854775808 ≤ n ∧ n ≤ 9223372036854775807) : wrap64 n = n := by unfold wrap64; omega
theorem flat_len (f : Int → List Int) (hf : ∀ x, (f x).length = 11) : ∀ l : List Int, ((l.map f).flatten).length = 11 * l.length
  | [] => rfl
  | x :: l => by simp only [List.map_cons, List.flatten_cons, List.length_append, hf, flat_len f hf l, List.length_cons]; omega
theorem flat_at (f : Int → List Int) (hf : ∀ x, (f x).length = 11) : ∀ (l : List Int) (i : Nat), i < l.length → (((l.map f).flatten).take (11 * i + 11)).drop (11 * i) = f (l.getD i 0)
  | [], i, h => absurd h (by simp)
  | x :: l, 0, _ => by
    simp only [List.map_cons, List.flatten_cons, List.getD_cons_zero, Nat.mul_zero, Nat.zero_add, List.drop_zero]
    rw [List.take_append_of_le_length (by rw [hf]; omega), List.take_of_length_le (by rw [hf]; omega)]
  | x :: l, i + 1, h => by
    have ih := flat_at f hf l i (by simpa using h)
    simp only [List.map_cons, List.flatten_cons, List.getD_cons_succ]
    rw [show 11 * (i + 1) + 11 = (f x).length + (11 * i + 11) by rw [hf]; omega, show 11 * (i + 1) = (f x).length + 11 * i by rw [hf]; omega, List.take_length_add_append, List.drop_length_add_append]
    exact ih
theorem flat_take (f : Int → List Int) (l : List Int) (i : Nat) (h : i < l.length) : ((l.take i).map f).flatten ++ f (l.getD i 0) = ((l.take (i + 1)).map f).flatten := by
  rw [List.take_succ_eq_append_getElem h, List.map_append, List.flatten_append]
  simp [List.getD_eq_getElem?_getD, List.getElem?_eq_getElem h]
theorem mark_len (b : Bool) (k : Int) : (markList b k).length = 11 := by cases b <;> rfl
theorem mark_byt (b : Bool) (k : Int) (h0 : 0 ≤ k) (h1 : k ≤ 255) : Byt (markList b k) := by
  intro x hx
  cases b <;> simp [markList] at hx <;> omega
theorem mark_read (a0 a1 a2 a3 a4 a5 a6 a7 a8 : Int) (a9 b : Bool) (k : Int) (h0 : 0 ≤ k) (h1 : k ≤ 255) :
    ∃ x y, impl_MarkerRead.f a0 a1 a2 a3 a4 a5 a6 a7 a8 a9 (markList b k) = some (x, 12, y, 0, k, true) := by
  unfold impl_MarkerRead.f
  rw [if_pos ⟨mark_byt b k h0 h1, by rw [mark_len]; omega⟩, if_pos ⟨mark_len b k, by cases b <;> rfl⟩]
  exact ⟨lenOf (longOf a9 a0) (markList b k), (markList b k).getD 5 0, by
    have e : (markList b k).getD 10 0 = k := by cases b <;> rfl
    rw [e]⟩
theorem clone_some (l : List Int) (h : l.length < 140737488355328) : bytes_Clone.f l = some l := by unfold bytes_Clone.f; rw [if_pos h]

theorem marks1 (a0 a1 a2 a3 a4 a5 a6 a7 a8 : Int) (a9 b : Bool) (l : List Int) (hl : l.length ≤ 20) (hw : ∀ i : Nat, i < l.length → 0 ≤ l.getD i 0 ∧ l.getD i 0 ≤ 255) :
    ∀ (m i : Nat), i + m = l.length → ZM.laws_FnPacketMarks.l1 (m + 1) ((l.map (markList b)).flatten) l (l.length : Int) (i : Int) a0 a1 a2 a3 a4 a5 a6 a7 a8 a9 = some true := by
  intro m
  induction m with
  | zero =>
    intro i hi
    unfold ZM.laws_FnPacketMarks.l1
    rw [if_neg (by omega)]
    rfl
  | succ m ih =>
    intro i hi
    have hlt : i < l.length := by omega
    have w1 : wrap64 (11 * (i : Int)) = 11 * (i : Int) := w64_in _ (by omega)
    have w2 : wrap64 (11 * (i : Int) + 11) = 11 * (i : Int) + 11 := w64_in _ (by omega)
    have w3 : wrap64 ((i : Int) + 1) = ((i + 1 : Nat) : Int) := by rw [w64_in _ (by omega)]; omega
    have hfl := flat_len (markList b) (mark_len b) l
    have hfa := flat_at (markList b) (mark_len b) l i hlt
    have e1 : (11 * (i : Int) + 11).toNat = 11 * i + 11 := by omega
    have e2 : (11 * (i : Int)).toNat = 11 * i := by omega
    obtain ⟨h0, h1⟩ := hw i hlt
    obtain ⟨x, y, hr⟩ := mark_read a0 a1 a2 a3 a4 a5 a6 a7 a8 a9 b (l.getD i 0) h0 h1
    have ih' := ih (i + 1) (by omega)
    unfold ZM.laws_FnPacketMarks.l1
    rw [w1, w2, w3, e1, e2, hfa, hfl, if_pos (by omega), if_pos (by omega), if_pos (by omega), if_pos (by omega), if_pos (by omega), if_pos (by omega), clone_some _ (by rw [mark_len]; omega), Option.bind_some, hr, Option.bind_some]
    rw [if_pos rfl, if_pos (by unfold rd; rw [Int.toNat_natCast])]
    exact ih'
theorem marks0 (a0 a1 a2 a3 a4 a5 a6 a7 a8 : Int) (a9 : Bool) (K : Nat) (l : List Int) (hl : l.length ≤ 20) :
    ∀ (m i : Nat), i + m = l.length → ZM.laws_FnPacketMarks.l0 (m + 1 + K) l (((l.take i).map (markList (a9 && decide (a0 ≥ 315)))).flatten) l (l.length : Int) (i : Int) a0 a1 a2 a3 a4 a5 a6 a7 a8 a9 =
      ZM.laws_FnPacketMarks.l1 K ((l.map (markList (a9 && decide (a0 ≥ 315)))).flatten) l (l.length : Int) 0 a0 a1 a2 a3 a4 a5 a6 a7 a8 a9 := by
  intro m
  induction m with
  | zero =>
    intro i hi
    have e : l.take i = l := List.take_of_length_le (by omega)
    rw [e, show 0 + 1 + K = K + 1 by omega]
    have hfl := flat_len (markList (a9 && decide (a0 ≥ 315))) (mark_len _) l
    conv => lhs; unfold ZM.laws_FnPacketMarks.l0
    rw [if_neg (by omega), hfl, if_pos (by rw [w64_in _ (by omega)]; omega)]
  | succ m ih =>
    intro i hi
    have hlt : i < l.length := by omega
    have w3 : wrap64 ((i : Int) + 1) = ((i + 1 : Nat) : Int) := by rw [w64_in _ (by omega)]; omega
    have hft := flat_take (markList (a9 && decide (a0 ≥ 315))) l i hlt
    have hfl := flat_len (markList (a9 && decide (a0 ≥ 315))) (mark_len _) (l.take i)
    have htl : (l.take i).length ≤ 20 := by rw [List.length_take]; omega
    have ih' := ih (i + 1) (by omega)
    rw [show m + 1 + 1 + K = (m + 1 + K) + 1 by omega]
    conv => lhs; unfold ZM.laws_FnPacketMarks.l0
    have er : rd l (i : Int) = l.getD i 0 := by unfold rd; rw [Int.toNat_natCast]
    rw [if_pos (by omega), if_pos (by omega), if_pos (by omega), er]
    show (if _ then _ else _) = _
    rw [if_pos (by rw [mark_len]; omega), hft, w3]
    exact ih'
theorem FnPacketMarks (a0 a1 a2 a3 a4 a5 a6 a7 a8 : Int) (a9 : Bool) (w0 : (Lit.int .u16 a0).wf = true) (w1 : (Lit.int .u16 a1).wf = true) (w2 : (Lit.int .u16 a2).wf = true) (w3 : (Lit.int .u16 a3).wf = true) (w4 : (Lit.int .u16 a4).wf = true) (w5 : (Lit.int .u8 a5).wf = true) (w6 : (Lit.int .u8 a6).wf = true) (w7 : (Lit.int .u32 a7).wf = true) (w8 : (Lit.int .u32 a8).wf = true)
    (l : List Int) (hm : l.length ≤ maxLen) (hy : l.length * 1 ≤ 140737488351232) (hw : ∀ x ∈ l, (Lit.int .u8 x).wf = true) :
    ∃ k, ZM.laws_FnPacketMarks.f k a0 a1 a2 a3 a4 a5 a6 a7 a8 a9 l = some true := by
  have hb : ∀ i : Nat, i < l.length → 0 ≤ l.getD i 0 ∧ l.getD i 0 ≤ 255 := by
    intro i hi
    have := hw (l.getD i 0) (by rw [List.getD_eq_getElem?_getD, List.getElem?_eq_getElem hi]; exact List.getElem_mem hi)
    simp only [Lit.wf, Bool.and_eq_true, decide_eq_true_eq] at this
    have e0 : IntKind.u8.min = 0 := rfl
    have e1 : IntKind.u8.max = 255 := rfl
    omega
  refine ⟨l.length + 1 + (l.length + 1), ?_⟩
  unfold ZM.laws_FnPacketMarks.f
  by_cases h1 : (l.length : Int) > 2147483647
  · rw [if_pos h1]
  · rw [if_neg h1]
    by_cases h2 : (l.length : Int) > 20
    · rw [if_pos h2]; rfl
    · rw [if_neg h2]
      exact (marks0 a0 a1 a2 a3 a4 a5 a6 a7 a8 a9 (l.length + 1) l (by omega) l.length 0 (by omega)).trans
        (marks1 a0 a1 a2 a3 a4 a5 a6 a7 a8 a9 _ l (by omega) hb l.length 0 (by omega))
end Go.Proofs.YtpacjdlgnoiheaaDoor.Pure
