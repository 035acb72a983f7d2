/- FnSessionClr: how long a CLR is, and that it is read back. -/
import Derived.Test.YtdnahdddkagfhaaDoorTb
import Derived.Test.YtdnahdddkagfhaaDoorPx
namespace Go.Proofs.YtdnahdddkagfhaaDoor.X
open Go.RowKit Go.Proofs.YtdnahdddkagfhaaDoorW.PrintWords Go.Proofs.YtdnahdddkagfhaaDoorW.PrintLast Go.Proofs.YtdnahdddkagfhaaDoorW.PrintMore
attribute [local go_sem] setCell_drewN alloc_drewN
set_option linter.unusedVariables false
set_option linter.unusedSimpArgs false
namespace Ses
theorem gt_open {w : World} {p : Gt} {c : List Value} (h : gtKd.K w p c) : ∃ A cA B cB, c = [.bool p.ok, .slice A p.data.length cA, .slice B p.other.length cB, .int .i64 p.num, .string ⟨#[]⟩] ∧ p.data.length ≤ cA ∧ Kd.C (Kd.int .u8) w A p.data.length p.data ∧ p.other.length ≤ cB ∧ Kd.C (Kd.int .u8) w B p.other.length p.other := by
  obtain ⟨c0, d0, rfl, h0, c1, d1, rfl, ⟨A, cA, rfl, hA, hA2⟩, c2, d2, rfl, ⟨B, cB, rfl, hB, hB2⟩, c3, d3, rfl, h3, h4⟩ := h
  have e0 : c0 = [_] := h0
  have e3 : c3 = [_] := h3
  have e4 : d3 = [_] := h4
  subst e0; subst e3; subst e4
  exact ⟨A, cA, B, cB, rfl, hA, hA2, hB, hB2⟩
/-- One answer, laid open. -/
theorem gt_one {w : World} {base : Nat} {v : Value} {o : Gt} (h : gtKd.R 38 w base (fun _ => True) v [o]) : ∃ g c A cA B cB, v = .slice (some ⟨g, 0, none⟩) 1 c ∧ w.cell? ⟨g, 0, none⟩ = some (.bool o.ok) ∧ w.cell? ⟨g, 1, none⟩ = some (.slice A o.data.length cA) ∧ w.cell? ⟨g, 2, none⟩ = some (.slice B o.other.length cB) ∧ w.cell? ⟨g, 3, none⟩ = some (.int .i64 o.num) ∧ o.data.length ≤ cA ∧ Kd.C (Kd.int .u8) w A o.data.length o.data := by
  obtain ⟨g, c, rfl, -, -, -⟩ := Kd.R_form h (by simp)
  obtain ⟨-, -, hC⟩ := Kd.R_reads' h
  obtain ⟨g', o', e, -, hel⟩ := Kd.C_head hC (by decide) (by simp)
  injection e with e
  injection e with e1 e2
  subst e1; subst e2
  obtain ⟨cl, -, hK, hcell⟩ := hel 0 o rfl
  obtain ⟨A, cA, B, cB, rfl, hA, hCA, -, -⟩ := gt_open hK
  refine ⟨g, c, A, cA, B, cB, rfl, ?_, ?_, ?_, ?_, hA, hCA⟩
  · have := hcell 0 _ rfl; simpa [gtKd] using this
  · have := hcell 1 _ rfl; simpa [gtKd] using this
  · have := hcell 2 _ rfl; simpa [gtKd] using this
  · have := hcell 3 _ rfl; simpa [gtKd] using this
/-- One step of a reader, in a block of its own. -/
theorem gs_one {w : World} {g : Nat} {p : GS} (h : w.heap[g]? = some (.cells #[.int .i64 p.kind, .int .i64 p.size, .bool p.sb, .bool p.sc] 35 (0, 0))) : gsKd.C w (some ⟨g, 0, none⟩) [p].length [p] := by
  refine ⟨rfl, by simp, fun _ => ⟨_, rfl, fun j q hj => ?_⟩⟩
  have hj0 : j = 0 := by
    rcases j with _ | j
    · rfl
    · simp at hj
  subst hj0
  obtain rfl : p = q := by simpa using hj
  refine ⟨[.int .i64 p.kind, .int .i64 p.size, .bool p.sb, .bool p.sc], rfl, ?_, fun i u hi => ?_⟩
  · exact ⟨[_], _, rfl, rfl, [_], _, rfl, rfl, [_], _, rfl, rfl, rfl⟩
  · rw [Lib.addr_add, xb_cell h, ← Array.getElem?_toList]
    rw [Nat.zero_mul, Nat.zero_add, Nat.zero_add]
    exact hi
/-- One step that goes well. -/
theorem get_good (s : GS) (o : Gt) (ho : o.ok = true) (l : List Int) (k : Nat) (big : Bool) (hlm : l.length ≤ 1000000) (hk : k ≤ l.length)
    (HGot : ∀ (W : World) (b g c : Nat), RS W b g c l 0 big 64 → Calls Tryd.prog 48 #[.pointer (some ⟨b, 0, none⟩), .agg #[.int .i64 s.kind, .int .i64 s.size, .bool s.sb, .bool s.sc]] W (GotQ b g c l k big 64 o W))
    (w : World) (a : Addr) (cI : Nat) (hin : Kd.C (Kd.int .u8) w (some a) l.length l) (gb : Nat) (hS : w.heap[gb]? = some (.cells #[.int .i64 s.kind, .int .i64 s.size, .bool s.sb, .bool s.sc] 35 (0, 0))) :
    Calls Tryd.prog 18 #[.slice (some a) l.length cI, .slice (some ⟨gb, 0, none⟩) 1 1, .bool big] w fun e w' => ∃ v v2, e = .returned (.tuple #[v, v2]) ∧ gtKd.R 38 w' w.heap.size (fun _ => True) v [o] ∧ Kd.R (Kd.int .u8) 5 w' w.heap.size (fun _ => True) v2 (l.drop k) ∧ Below w.heap.size w w' := by
  have h := sessionGet_any [s] [o] (fun j => if j = 0 then 0 else k) l big hlm (fun j _ => by split <;> omega) rfl (by simp) ⟨Nat.le_refl _, fun j o' h1 h2 => by simp at h2, .inl rfl⟩ (fun j s' o' h1 h2 W b g c hr => by
    rcases j with _ | j
    · obtain rfl : s = s' := by simpa using h1
      obtain rfl : o = o' := by simpa using h2
      exact HGot W b g c hr
    · simp at h1) w a cI (some ⟨gb, 0, none⟩) 1 hin (gs_one hS) (Nat.le_refl _)
  exact h
end Ses
namespace Dg
theorem chunks_count (c : Nat) (hc : 1 ≤ c) : ∀ (k : Nat) (l : List Int), l.length ≤ k → (chunksF false c k l).length = l.length + (l.length + c - 1) / c
  | 0, l, h => by
    have hl : l = [] := List.eq_nil_of_length_eq_zero (by omega)
    subst hl
    simp [chunksF, Nat.div_eq_of_lt (show c - 1 < c by omega)]
  | k + 1, l, h => by
    rw [chunksF]
    split
    · rename_i hl
      subst hl
      simp [Nat.div_eq_of_lt (show c - 1 < c by omega)]
    · rename_i hl
      have hp : 0 < l.length := List.length_pos_iff.2 hl
      have ih := chunks_count c hc k (l.drop c) (by rw [List.length_drop]; omega)
      rw [List.length_append, List.length_append, ih, List.length_drop, List.length_take]
      have h1 : (headB false (min c l.length)).length = 1 := rfl
      rw [h1]
      by_cases hlc : l.length ≤ c
      · rw [show l.length - c = 0 by omega, show 0 + c - 1 = c - 1 by omega, Nat.div_eq_of_lt (show c - 1 < c by omega)]
        have : (l.length + c - 1) / c = 1 := by
          apply Nat.div_eq_of_lt_le <;> omega
        omega
      · have e : (l.length + c - 1) / c = (l.length - c + c - 1) / c + 1 := by
          rw [show l.length + c - 1 = (l.length - c + c - 1) + c by omega, Nat.add_div_right _ (by omega)]
        omega
theorem headB_byt (big : Bool) (n : Nat) (hn : n ≤ 255) : ∀ y ∈ headB big n, 0 ≤ y ∧ y ≤ 255 := by
  intro y hy
  unfold headB at hy
  split at hy
  · exact packed_byt _ y hy
  · obtain rfl : y = (n : Int) := by simpa using hy
    omega
theorem chunksF_byt (big : Bool) (c : Nat) (hc : c ≤ 255) : ∀ (k : Nat) (l : List Int), (∀ y ∈ l, 0 ≤ y ∧ y ≤ 255) → ∀ y ∈ chunksF big c k l, 0 ≤ y ∧ y ≤ 255
  | 0, l, _, y, hy => by simp [chunksF] at hy
  | k + 1, l, hl, y, hy => by
    rw [chunksF] at hy
    split at hy
    · simp at hy
    · rcases List.mem_append.1 hy with hy | hy
      · rcases List.mem_append.1 hy with hy | hy
        · exact headB_byt big _ (by rw [List.length_take]; omega) y hy
        · exact hl y (List.mem_of_mem_take hy)
      · exact chunksF_byt big c hc k _ (fun z hz => hl z (List.mem_of_mem_drop hz)) y hy
theorem clrB_byt (big : Bool) (c : Nat) (hc : c ≤ 255) (l : List Int) (hl : ∀ y ∈ l, 0 ≤ y ∧ y ≤ 255) : ∀ y ∈ clrB big c l, 0 ≤ y ∧ y ≤ 255 := by
  intro y hy
  unfold clrB at hy
  split at hy
  · rcases List.mem_cons.1 hy with rfl | hy
    · omega
    · exact hl y hy
  · rcases List.mem_cons.1 hy with rfl | hy
    · omega
    · rcases List.mem_append.1 hy with hy | hy
      · exact chunksF_byt big c hc _ _ hl y hy
      · obtain rfl : y = 0 := by simpa using hy
        omega
end Dg
set_option maxHeartbeats 400000 in
theorem sessionChunk_ok (k : Int) (w : World) (h0 : 0 ≤ k) (h1 : k ≤ 255) : Calls Tryd.prog 15 #[.int .u8 k] w fun e w' => e = .returned (.int .i64 (k % 252 + 1)) ∧ w' = w := by
  have pw : IntKind.i64.wrap k = k := (IntKind.wrap_i64 _).trans (by omega)
  go_enter Tryd.func15, Tryd.ntmps15
  go_wp2
  go_ret
  exact ⟨rfl, rfl⟩
/-- A CLR, written. -/
theorem put_clr (data : List Int) (n : Nat) (hn1 : 1 ≤ n) (hn2 : n ≤ 252) (hd : data.length ≤ 3000) (A : Option Addr) (cA : Nat) (w : World) (hA : Kd.C (Kd.int .u8) w A data.length data) (hle : data.length ≤ cA) :
    Calls Tryd.prog 16 #[.slice (some ⟨w.heap.size, 0, none⟩) 1 1, .bool false, .int .i64 n] (w.alloc (.cells #[.int .i64 1, .slice A data.length cA, .slice none 0 0, .int .i64 0, .int .u64 0, .int .u8 0, .int .u8 0, .bool false, .bool false] 29)) fun e w' => ∃ v, e = .returned v ∧ Kd.R (Kd.int .u8) 5 w' w.heap.size (fun _ => True) v (Dg.clrB false n data) ∧ Below w.heap.size w w' := by
  have hz : w.heap.size ≤ (w.alloc (.cells #[.int .i64 1, .slice A data.length cA, .slice none 0 0, .int .i64 0, .int .u64 0, .int .u8 0, .int .u8 0, .bool false, .bool false] 29)).heap.size := by rw [World.size_alloc]; omega
  have hC := Ses.ps_one (w := w.alloc (.cells #[.int .i64 1, .slice A data.length cA, .slice none 0 0, .int .i64 0, .int .u64 0, .int .u8 0, .int .u8 0, .bool false, .bool false] 29)) (g := w.heap.size) (p := ⟨1, data, [], 0, 0, 0, 0, false, false⟩) (A := A) (B := none) (cA := cA) (cB := 0) (Kd.C_below hA (below_alloc (Below.refl _ _) _)) hle (C_empty _ _ _) (Nat.le_refl _) (xb_new w _)
  have h := sessionPut_any [⟨1, data, [], 0, 0, 0, 0, false, false⟩] (some ⟨w.heap.size, 0, none⟩) 1 false n _ hC (Nat.le_refl _) (fun p hp => by
    obtain rfl : p = ⟨1, data, [], 0, 0, 0, 0, false, false⟩ := by simpa using hp
    refine ⟨hd, by simp, by simp, fun h => ?_, fun h => ?_⟩ <;> simp at h) (by simp) hn1 hn2
  refine h.mono ?_
  rintro e w' ⟨v, rfl, hR, hb⟩
  have e : List.flatMap (Ses.stepB false n) [⟨1, data, [], 0, 0, 0, 0, false, false⟩] = Dg.clrB false n data := by
    rw [List.flatMap_cons, List.flatMap_nil, List.append_nil]
    rfl
  rw [e] at hR
  exact ⟨v, rfl, Kd.R_lower hR hz, (below_alloc (Below.refl _ _) _).trans (hb.mono hz)⟩
/-- A CLR alone, read. -/
theorem get_clr (data enc : List Int) (n : Nat) (hn1 : 1 ≤ n) (hn2 : n ≤ 252) (hd : data.length ≤ 3000) (henc : enc = Dg.clrB false n data) (hep : 0 < enc.length) (hby : ∀ x ∈ data, 0 ≤ x ∧ x ≤ 255) (a : Addr) (cI : Nat) (w : World) (hin : Kd.C (Kd.int .u8) w (some a) enc.length enc) :
    Calls Tryd.prog 18 #[.slice (some a) enc.length cI, .slice (some ⟨w.heap.size, 0, none⟩) 1 1, .bool false] (w.alloc (.cells #[.int .i64 2, .int .i64 0, .bool false, .bool false] 35)) fun e w' => ∃ g c A cA X cX, e = .returned (.tuple #[.slice (some ⟨g, 0, none⟩) 1 c, .slice X 0 cX]) ∧ w'.cell? ⟨g, 0, none⟩ = some (.bool true) ∧ w'.cell? ⟨g, 1, none⟩ = some (.slice A data.length cA) ∧ data.length ≤ cA ∧ Kd.C (Kd.int .u8) w' A data.length data ∧ Below w.heap.size w w' := by
  have hz : w.heap.size ≤ (w.alloc (.cells #[.int .i64 2, .int .i64 0, .bool false, .bool false] 35)).heap.size := by rw [World.size_alloc]; omega
  have hel : enc.length ≤ 40000 := by rw [henc]; have := Dg.clrB_len false n hn1 data; omega
  have heb : ∀ y ∈ enc, 0 ≤ y ∧ y ≤ 255 := by rw [henc]; exact Dg.clrB_byt false n (by omega) data hby
  have hpre : Ses.Pre enc 0 (Dg.clrB false n data) := by
    rw [← henc]
    exact ⟨Nat.zero_le _, [], by rw [List.drop_zero, List.append_nil]⟩
  have hgot := fun (W : World) (b g c : Nat) (h : Ses.RS W b g c enc 0 false 64) => got_clr W b g c enc 0 enc.length false 64 0 false false data h (Int.le_refl _) (by omega) (fun V hV hs => by
    have hh := getClr_any V b g c enc 0 W.heap.size n false 64 data hV hs (by omega) hn1 hn2 hpre heb
    rw [Nat.zero_add, ← henc] at hh
    exact hh)
  have hget := Ses.get_good ⟨2, 0, false, false⟩ ⟨true, data, [], 0⟩ rfl enc enc.length false (by omega) (Nat.le_refl _) (fun V b g c hr => (hgot V b g c hr).mono (fun e w' h => h.q)) _ a cI (Kd.C_below hin (below_alloc (Below.refl _ _) (.cells #[.int .i64 2, .int .i64 0, .bool false, .bool false] 35))) w.heap.size (xb_new w _)
  rw [List.drop_length] at hget
  refine hget.mono ?_
  rintro e w' ⟨v, v2, rfl, hR, hR2, hb⟩
  obtain ⟨g, c, A, cA, B, cB, rfl, y0, y1, -, -, hle, hCA⟩ := Ses.gt_one hR
  obtain ⟨X, cX, rfl, -, -, -, -⟩ := Ses.R_slots hR2
  exact ⟨g, c, A, cA, X, cX, rfl, y0, y1, hle, hCA, (below_alloc (Below.refl _ _) _).trans (hb.mono hz)⟩
end Go.Proofs.YtdnahdddkagfhaaDoor.X
