/- A message that is cut: its parts ahead stand whole, and one is cut; what reading it gives. -/
import Derived.Test.YtdnahdddkagfhaaDoorSd
import Derived.Test.YtdnahdddkagfhaaDoorQo
namespace Go.Proofs.YtdnahdddkagfhaaDoor.X
open Go.RowKit Go.Proofs.YtdnahdddkagfhaaDoorW.PrintWords Go.Proofs.YtdnahdddkagfhaaDoorW.PrintMore
set_option linter.unusedVariables false
set_option linter.unusedSimpArgs false
namespace Ses
theorem lit8 {x : Int} (h : (Lit.int .u8 x).wf = true) : 0 ≤ x ∧ x ≤ 255 := by
  simp only [Lit.wf, Bool.and_eq_true, decide_eq_true_eq] at h
  exact h
theorem lit64 {x : Int} (h : (Lit.int .u64 x).wf = true) : 0 ≤ x ∧ x ≤ 18446744073709551615 := by
  simp only [Lit.wf, Bool.and_eq_true, decide_eq_true_eq] at h
  exact h
theorem spok {p : SP} (h : p.wf) (hl : Long p = false) : SPok p := by
  obtain ⟨h1, h2, h3, h4, -, -⟩ := h
  simp only [Long, Bool.or_eq_false_iff, decide_eq_false_iff_not] at hl
  have a := lit8 h1
  have b := lit8 h2
  have c := lit64 h3
  exact ⟨a.1, a.2, b.1, b.2, c.1, by omega, by omega, by omega⟩
theorem okn_conv (s k n : Int) (s0 : 0 ≤ s) (n0 : 0 ≤ n) (n1 : n < 18446744073709551616) : OkN (numOf k s n) (szOf s) := by
  unfold OkN numOf szOf
  have h4 : s % 4 = 0 ∨ s % 4 = 1 ∨ s % 4 = 2 ∨ s % 4 = 3 := by omega
  rcases h4 with h | h | h | h <;> simp [h] <;> split <;> omega
theorem okp_conv {p : SP} (h : SPok p) (hf : 0 ≤ p.flag ∧ p.flag ≤ 255) : OkP (conv p) := by
  have hr := numOf_range (k := p.kind) (s := p.size) h.n0 h.n1
  have ho := okn_conv p.size p.kind p.num h.s0 h.n0 h.n1
  refine ⟨by have := h.data; show p.data.length ≤ 3000; omega, by have := h.other; show p.other.length ≤ 3000; omega, hf, fun hk => ?_, fun hk => ?_⟩
  · have hk' : p.kind % 6 = 2 := hk
    simp only [conv, if_pos hk']
    exact ⟨ho, hr.2.2 hk'⟩
  · have hk' : p.kind % 6 = 3 := hk
    simp only [conv, if_pos hk']
    exact ho
theorem byt_wf {l : List Int} (h : ∀ x ∈ l, (Lit.int .u8 x).wf = true) : Byt l := fun x hx => lit8 (h x hx)
theorem headB_byt (big : Bool) {n : Nat} (hn : n ≤ 255) : Byt (Dg.headB big n) := by
  unfold Dg.headB
  split
  · exact Dg.packed_byt _
  · intro x hx
    rw [List.mem_singleton.1 hx]
    omega
theorem chunks_byt (big : Bool) {c : Nat} (hc : c ≤ 252) : ∀ (k : Nat) (l : List Int), Byt l → Byt (Dg.chunksF big c k l)
  | 0, _, _ => fun x hx => by simp [Dg.chunksF] at hx
  | k + 1, l, hl => by
    rw [Dg.chunksF]
    split
    · intro x hx; simp at hx
    · intro x hx
      rcases List.mem_append.1 hx with h | h
      · rcases List.mem_append.1 h with h | h
        · exact headB_byt big (by rw [List.length_take]; omega) x h
        · exact hl x (List.mem_of_mem_take h)
      · exact chunks_byt big hc k (l.drop c) (fun y hy => hl y (List.mem_of_mem_drop hy)) x h
theorem clr_byt (big : Bool) {c : Nat} (hc : c ≤ 252) {l : List Int} (hl : Byt l) : Byt (Dg.clrB big c l) := by
  unfold Dg.clrB
  split
  · intro x hx
    rcases List.mem_cons.1 hx with rfl | h
    · omega
    · exact hl x h
  · intro x hx
    rcases List.mem_cons.1 hx with rfl | h
    · omega
    · rcases List.mem_append.1 h with h | h
      · exact chunks_byt big hc _ l hl x h
      · rw [List.mem_singleton.1 h]; omega
theorem dlc_byt (big : Bool) {c : Nat} (hc : c ≤ 252) {l : List Int} (hl : Byt l) : Byt (Dg.dlcB big c l) := by
  unfold Dg.dlcB
  split
  · intro x hx
    rw [List.mem_singleton.1 hx]; omega
  · intro x hx
    rcases List.mem_append.1 hx with h | h
    · exact Dg.packed_byt _ x h
    · exact clr_byt big hc hl x h
theorem fixed_byt {l : List Int} (hl : Byt l) : Byt (Dg.fixedB l) := by
  unfold Dg.fixedB
  split
  · intro x hx
    rcases List.mem_cons.1 hx with rfl | h
    · omega
    · exact hl x h
  · intro x hx
    rcases List.mem_cons.1 hx with rfl | h
    · omega
    · rcases List.mem_append.1 h with h | h
      · exact Dg.plainL_byt _ _ x (List.mem_reverse.1 h)
      · exact hl x h
theorem num_byt (two : Bool) (n s : Int) (be comp : Bool) : Byt (numB two n s be comp) := by
  unfold numB
  split
  · exact Dg.packed_byt _
  · split
    · exact fun x hx => Dg.plainL_byt _ _ x (List.mem_reverse.1 hx)
    · exact Dg.plainL_byt _ _
theorem step_byt (big : Bool) {c : Nat} (hc : c ≤ 252) {p : PS} (hd : Byt p.data) (ho : Byt p.other) : Byt (stepB big c p) := by
  unfold stepB
  split
  · exact hd
  · split
    · exact clr_byt big hc hd
    · split
      · exact num_byt _ _ _ _ _
      · split
        · exact num_byt _ _ _ _ _
        · split
          · intro x hx
            rcases List.mem_append.1 hx with h | h
            · rcases List.mem_append.1 h with h | h
              · exact dlc_byt big hc hd x h
              · exact dlc_byt big hc ho x h
            · exact Dg.packed_byt _ x h
          · split
            · exact fixed_byt hd
            · intro x hx; simp at hx
theorem msg_byt {ps : List SP} (big : Bool) {c : Nat} (hc : c ≤ 252) (h : ∀ p ∈ ps, p.wf) : Byt (ps.flatMap fun p => stepB big c (conv p)) := by
  intro x hx
  obtain ⟨p, hp, hx⟩ := List.mem_flatMap.1 hx
  exact step_byt big hc (byt_wf (h p hp).2.2.2.2.1) (byt_wf (h p hp).2.2.2.2.2) x hx
theorem stepB_len2 {p : PS} (h : OkP p) (big : Bool) (c : Nat) (hc : 1 ≤ c) : (stepB big c p).length ≤ 10 * p.data.length + 10 * p.other.length + 40 := by
  unfold stepB
  split
  · omega
  split
  · have := Dg.clrB_len big c hc p.data; omega
  split
  · rename_i hk; have := okN_len (h.num hk).1 true p.big p.comp; omega
  split
  · rename_i hk; have := okN_len (h.uns hk) false p.big p.comp; omega
  split
  · have a := Dg.dlcB_len big c hc p.data
    have b := Dg.dlcB_len big c hc p.other
    have d := Dg.packed_len p.flag
    rw [List.length_append, List.length_append]; omega
  split
  · have := Dg.fixedB_len p.data; omega
  · simp
theorem flat_lenB {α : Type} (f : α → List Int) (B : Nat) : ∀ ps : List α, (∀ p ∈ ps, (f p).length ≤ B) → (ps.flatMap f).length ≤ B * ps.length
  | [], _ => by simp
  | p :: ps, h => by
    have ih := flat_lenB f B ps (fun q hq => h q (List.mem_cons_of_mem _ hq))
    have h0 := h p List.mem_cons_self
    rw [List.flatMap_cons, List.length_append, List.length_cons, Nat.mul_succ]
    omega
theorem msg_len {ps : List SP} (big : Bool) {c : Nat} (hc : 1 ≤ c) (hok : ∀ p ∈ ps, SPok p) (hop : ∀ p ∈ ps, OkP (conv p)) (hn : ps.length ≤ 20) : (ps.flatMap fun p => stepB big c (conv p)).length ≤ 1000000 := by
  have h := flat_lenB (fun p => stepB big c (conv p)) 20040 ps (fun p hp => by
    have h1 := stepB_len2 (hop p hp) big c hc
    have h2 : (conv p).data.length ≤ 1000 := (hok p hp).data
    have h3 : (conv p).other.length ≤ 1000 := (hok p hp).other
    show (stepB big c (conv p)).length ≤ 20040
    omega)
  have : 20040 * ps.length ≤ 20040 * 20 := Nat.mul_le_mul_left _ hn
  omega
/-- The parts of a message that is cut. -/
theorem cut_parts {α : Type} (f : α → List Int) : ∀ (ps : List α) (l : List Int) (idx : Nat), Cut l idx (ps.flatMap f) → ∃ t p, ps[t]? = some p ∧ (∀ j q, ps[j]? = some q → j < t → Pre l (idx + ((ps.take j).flatMap f).length) (f q)) ∧ Cut l (idx + ((ps.take t).flatMap f).length) (f p)
  | [], l, idx, h => (Cut.nil h).elim
  | p :: ps, l, idx, h => by
    rw [List.flatMap_cons] at h
    rcases h.app with h1 | ⟨h1, h2⟩
    · exact ⟨0, p, rfl, fun j q _ hj => absurd hj (Nat.not_lt_zero _), h1⟩
    · obtain ⟨t, q, e1, e2, e3⟩ := cut_parts f ps l (idx + (f p).length) h2
      refine ⟨t + 1, q, e1, fun j q' hj hjt => ?_, ?_⟩
      · rcases j with _ | j
        · obtain rfl : p = q' := by simpa using hj
          exact h1
        · have h3 := e2 j q' (by simpa using hj) (by omega)
          rw [List.take_succ_cons, List.flatMap_cons, List.length_append, ← Nat.add_assoc]
          exact h3
      · rw [List.take_succ_cons, List.flatMap_cons, List.length_append, ← Nat.add_assoc]
        exact e3
theorem cut_take {e : List Int} {k : Nat} (hk : k < e.length) : Cut (e.take k) 0 e :=
  ⟨Nat.zero_le _, e.drop k, fun h => by have := congrArg List.length h; rw [List.length_drop] at this; simp at this; omega, by rw [List.drop_zero, List.take_append_drop]⟩
theorem gotOf_okT (p : SP) : (gotOf p).ok = true := by
  unfold gotOf
  split
  · rfl
  · split <;> rfl
/-- What reading a message gives that is cut in its part t. -/
def outsOf (ps : List SP) (t : Nat) : List Gt := (ps.take t).map gotOf ++ [⟨false, [], [], 0⟩]
theorem outs_len {ps : List SP} {t : Nat} (h : t < ps.length) : (outsOf ps t).length = t + 1 := by
  unfold outsOf
  rw [List.length_append, List.length_map, List.length_take, List.length_singleton]
  omega
theorem outs_lt {ps : List SP} {t j : Nat} {o : Gt} (h : t < ps.length) (hj : j < t) (ho : (outsOf ps t)[j]? = some o) : ∃ p, ps[j]? = some p ∧ o = gotOf p := by
  unfold outsOf at ho
  rw [List.getElem?_append_left (by rw [List.length_map, List.length_take]; omega), List.getElem?_map, List.getElem?_take_of_lt hj] at ho
  obtain ⟨p, hp, rfl⟩ := Option.map_eq_some_iff.1 ho
  exact ⟨p, hp, rfl⟩
theorem outs_eq {ps : List SP} {t : Nat} (h : t < ps.length) : (outsOf ps t)[t]? = some ⟨false, [], [], 0⟩ := by
  unfold outsOf
  rw [List.getElem?_append_right (by rw [List.length_map, List.length_take]; omega), List.length_map, List.length_take, Nat.min_eq_left (by omega), Nat.sub_self]
  rfl
theorem outs_ok {ps : List SP} {t : Nat} (h : t < ps.length) : ∀ j o, (outsOf ps t)[j]? = some o → (j < t → o.ok = true) ∧ (j = t → o.ok = false) := by
  intro j o ho
  refine ⟨fun hj => ?_, fun hj => ?_⟩
  · obtain ⟨p, -, rfl⟩ := outs_lt h hj ho
    exact gotOf_okT p
  · subst hj
    rw [outs_eq h] at ho
    rw [← Option.some.inj ho]
theorem get_cut (ps : List SP) (ss : List GS) (hss : ∀ (j : Nat) (q : SP), ps[j]? = some q → ss[j]? = some (gsOf q)) (big : Bool) (cc : Nat) (hc1 : 1 ≤ cc) (hc2 : cc ≤ 252) (hok : ∀ p ∈ ps, SPok p) (hop : ∀ p ∈ ps, OkP (conv p)) (l : List Int) (hlm : l.length ≤ 1000000) (hby : Byt l) (hns : ss.length ≤ 100) (t : Nat) (p0 : SP) (ht : ps[t]? = some p0)
    (hpre : ∀ (j : Nat) (q : SP), ps[j]? = some q → j < t → Pre l (((ps.take j).flatMap fun p => stepB big cc (conv p)).length) (stepB big cc (conv q))) (hcut : Cut l (((ps.take t).flatMap fun p => stepB big cc (conv p)).length) (stepB big cc (conv p0)))
    (tp : TypeId) (ae : Addr) (w : World) (hE : EE tp ae w) (a : Addr) (cI : Nat) (A2 : Option Addr) (c2 : Nat) (hin : Kd.C (Kd.int .u8) w (some a) l.length l) (hS : gsKd.C w A2 ss.length ss) (hle2 : ss.length ≤ c2) :
    Calls Tryd.prog 18 #[.slice (some a) l.length cI, .slice A2 ss.length c2, .bool big] w fun e w' => ∃ v v2, e = .returned (.tuple #[v, v2]) ∧ gtKd.R 38 w' w.heap.size (fun _ => True) v (outsOf ps t) ∧ Below w.heap.size w w' := by
  have htl : t < ps.length := (List.getElem?_eq_some_iff.1 ht).1
  have hsl : ps.length ≤ ss.length := by
    rcases Nat.eq_zero_or_pos ps.length with h0 | h0
    · omega
    · have := (List.getElem?_eq_some_iff.1 (hss (ps.length - 1) _ (List.getElem?_eq_getElem (by omega)))).1
      omega
  have hol := outs_len htl
  have hla : ∃ o, (outsOf ps t)[(outsOf ps t).length - 1]? = some o ∧ 0 < (outsOf ps t).length ∧ o.ok = false := by
    rw [hol, Nat.add_sub_cancel]
    exact ⟨_, outs_eq htl, Nat.succ_pos _, rfl⟩
  refine sessionGet_torn ss (outsOf ps t) (fun j => ((ps.take j).flatMap fun p : SP => stepB big cc (conv p)).length) l big hlm (by simp) hns ⟨by omega, fun j o ho hj => ((outs_ok htl) j o ho).1 (by omega), .inr hla⟩ hla w ?_ a cI A2 c2 hin hS hle2
  intro j s o hs ho W b g c hr hb
  have hjl : j < (outsOf ps t).length := (List.getElem?_eq_some_iff.1 ho).1
  by_cases hjt : j < t
  · obtain ⟨p, hp, rfl⟩ := outs_lt htl hjt ho
    have hm := List.mem_of_getElem? hp
    rw [hss j p hp] at hs
    obtain rfl := Option.some.inj hs
    have hpj := hpre j p hp hjt
    have e : ((ps.take (j + 1)).flatMap fun p => stepB big cc (conv p)).length = ((ps.take j).flatMap fun p => stepB big cc (conv p)).length + (stepB big cc (conv p)).length := by
      obtain ⟨h1, h2⟩ := List.getElem?_eq_some_iff.1 hp
      rw [List.take_succ_eq_append_getElem h1, h2, List.flatMap_append, List.length_append]
      simp
    refine (got_whole W b g c l _ big 64 hr hby cc hc1 hc2 p (hok p hm) (hop p hm) hpj).mono ?_
    intro e' w' k
    refine ⟨_, hpj.len, fun _ => e.symm, k⟩
  · obtain rfl : j = t := by omega
    rw [outs_eq htl] at ho
    obtain rfl := Option.some.inj ho
    have hm := List.mem_of_getElem? ht
    rw [hss j p0 ht] at hs
    obtain rfl := Option.some.inj hs
    refine (got_torn W b g c l _ big 64 tp ae hr (hE.bl hb) hby cc hc1 hc2 p0 (hok p0 hm) (hop p0 hm) hcut).mono ?_
    rintro e' w' ⟨i, hi, hq⟩
    exact ⟨i, hi, fun h => absurd h (by simp), hq⟩
end Ses
end Go.Proofs.YtdnahdddkagfhaaDoor.X
