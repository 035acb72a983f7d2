/- converters.ToNumber over any slice that is read: what it returns, as a list made of pairs of digits. -/
import Derived.Test.YtepooaejlofkkaaDoorCl
import Derived.OneCell
import Derived.OwnWalk
namespace Go.Proofs.YtepooaejlofkkaaDoor.X
open Go.RowKit Go.Proofs.YtepooaejlofkkaaDoorW.PrintWords Go.Proofs.YtepooaejlofkkaaDoorW.PrintMore
attribute [local go_sem] setCell_drewN alloc_drewN
set_option linter.unusedVariables false
set_option linter.unusedSimpArgs false

/-- A pair of digits' letters as the form has it. -/
def pairB (neg : Bool) (a b : Int) : Int :=
  if neg then ((100 - ((((10 * ((a - 48) % 256)) % 256) + ((b - 48) % 256)) % 256)) % 256 + 1) % 256 else ((((10 * ((a - 48) % 256)) % 256) + ((b - 48) % 256)) % 256 + 1) % 256
/-- A last digit alone. -/
def oneB (neg : Bool) (a : Int) : Int := if neg then ((100 - ((10 * ((a - 48) % 256)) % 256)) % 256 + 1) % 256 else ((10 * ((a - 48) % 256)) % 256 + 1) % 256
def pairs (neg : Bool) : List Int → List Int
  | a :: b :: t => pairB neg a b :: pairs neg t
  | [a] => [oneB neg a]
  | [] => []
/-- The first byte. -/
def headB (neg : Bool) (e : Int) : Int :=
  let x := (Int.tdiv (if e < 0 then e - 1 else e) 2 + 1 + 64) % 256
  if neg then Go.bits .xor .u8 x 127 else Go.bits .or .u8 x 128
/-- The letters that are paired. -/
def evened (l : List Int) (e : Int) : List Int := if Int.tmod e 2 = 0 then 48 :: l else l
def toNum (l : List Int) (neg : Bool) (e : Int) : List Int :=
  if l.length = 0 then [128] else headB neg e :: (pairs neg (evened l e) ++ if neg = true ∧ (evened l e).length < 21 then [102] else [])

theorem pairs_length (neg : Bool) : ∀ l : List Int, (pairs neg l).length = (l.length + 1) / 2
  | [] => rfl
  | [a] => by simp [pairs]
  | a :: b :: t => by
    have := pairs_length neg t
    simp only [pairs, List.length_cons, this]
    omega
theorem pairs_two (neg : Bool) : ∀ (l : List Int) (j : Nat), 2 * j + 1 < l.length → (pairs neg l)[j]? = some (pairB neg (l.getD (2 * j) 0) (l.getD (2 * j + 1) 0))
  | [], j, h => absurd h (by simp)
  | [a], j, h => by simp at h
  | a :: b :: t, 0, h => rfl
  | a :: b :: t, j + 1, h => by
    have := pairs_two neg t j (by simp only [List.length_cons] at h; omega)
    simp only [pairs, List.getElem?_cons_succ, this]
    rfl
theorem pairs_one (neg : Bool) : ∀ (l : List Int) (j : Nat), 2 * j + 1 = l.length → (pairs neg l)[j]? = some (oneB neg (l.getD (2 * j) 0))
  | [], j, h => absurd h (by simp)
  | [a], j, h => by
    have : j = 0 := by simp at h; omega
    subst this
    rfl
  | a :: b :: t, 0, h => by simp at h
  | a :: b :: t, j + 1, h => by
    have := pairs_one neg t j (by simp only [List.length_cons] at h; omega)
    simp only [pairs, List.getElem?_cons_succ, this]
    rfl
/-- The row as far as it is filled. -/
def bufL (ps : List Int) (sz i : Nat) : List Int := (0 :: ps.take (i / 2)) ++ List.replicate (sz - 1 - i / 2) 0
theorem bufL_zero (ps : List Int) (sz : Nat) (h : 0 < sz) : bufL ps sz 0 = List.replicate sz 0 := by
  unfold bufL
  obtain ⟨m, rfl⟩ : ∃ m, sz = m + 1 := ⟨sz - 1, by omega⟩
  simp [List.replicate_succ]
theorem bufL_set (ps : List Int) (sz i : Nat) (v : Int) (hv : ps[i / 2]? = some v) (hsz : ps.length + 1 ≤ sz) :
    (bufL ps sz i).set (1 + i / 2) v = bufL ps sz (i + 2) := by
  have hlt := (List.getElem?_eq_some_iff.1 hv).1
  have h1 : (i + 2) / 2 = i / 2 + 1 := by omega
  unfold bufL
  rw [h1, List.take_add_one, hv]
  obtain ⟨m, hm⟩ : ∃ m, sz - 1 - i / 2 = m + 1 := ⟨sz - 1 - i / 2 - 1, by omega⟩
  have hm' : sz - 1 - (i / 2 + 1) = m := by omega
  rw [hm, hm', List.replicate_succ, List.set_append_right _ _ (by simp only [List.length_cons, List.length_take]; omega)]
  have : 1 + i / 2 - (0 :: ps.take (i / 2)).length = 0 := by simp only [List.length_cons, List.length_take]; omega
  rw [this, List.set_cons_zero]
  simp
theorem bufL_end (ps : List Int) (sz i : Nat) (hi : i / 2 = ps.length) : bufL ps sz i = 0 :: (ps ++ List.replicate (sz - 1 - ps.length) 0) := by
  unfold bufL
  rw [hi, List.take_length]
  rfl
theorem set_last (h : Int) (ps : List Int) (v : Int) : (0 :: (ps ++ List.replicate 1 0)).set (ps.length + 1) v = 0 :: (ps ++ [v]) := by
  rw [List.set_cons_succ, List.set_append_right _ _ (Nat.le_refl _), Nat.sub_self]
  rfl

theorem row_open {w : World} {base : Nat} {v : Value} {l : List Int} (h : Kd.R (Kd.int .u8) 5 w base (fun _ => True) v l) (hl : 0 < l.length) :
    ∃ g cap cur, v = .slice (some ⟨g, 0, none⟩) l.length cap ∧ w.heap[g]? = some (.cells cur 5 (0, 0)) ∧ cur.size = cap ∧ cap ≤ maxLen ∧ l.length ≤ cap ∧ cur.toList.take l.length = nums .u8 l ∧ base ≤ g := by
  have ho := Kd.own_of_R h
  rcases ho.2 with ⟨_, h0⟩ | ⟨g, cap, cur, rfl, hb, hh, h1, h2, h3, h4⟩
  · omega
  · exact ⟨g, cap, cur, rfl, hh, by omega, h2, h1, by rw [Nat.mul_one] at h4; exact h4, hb⟩
theorem take_set (cur : Array Value) (n i : Nat) (l : List Int) (v : Int) (h : cur.toList.take n = nums .u8 l) : (cur.setIfInBounds i (.int .u8 v)).toList.take n = nums .u8 (l.set i v) := by
  rw [Array.toList_setIfInBounds, List.take_set, h]
  simp [nums, List.map_set]
theorem whole_row {w' : World} {B r cap : Nat} {cur : Array Value} {l : List Int} {n : Nat} (hl : l.length = n) (hb : w'.heap[r]? = some (.cells cur 5 (0, 0))) (hs : cur.size = cap) (hm : cap ≤ maxLen) (hn : n ≤ cap) (ht : cur.toList.take n = nums .u8 l) (hB : B ≤ r) :
    Kd.R (Kd.int .u8) 5 w' B (fun _ => True) (.slice (some ⟨r, 0, none⟩) n cap) l := by
  subst hl
  exact Kd.R_of_own ⟨by rw [Nat.mul_one]; exact nums_length .u8 l, .inr ⟨r, cap, cur, rfl, hB, hb, hn, hm, by omega, by rw [Nat.mul_one]; exact ht⟩⟩ (fun _ _ => trivial)

set_option maxRecDepth 100000 in
set_option maxHeartbeats 1000000 in
theorem toNumber_none (A : Option Addr) (c : Nat) (neg : Bool) (e : Int) (w : World) :
    Calls Tryd.prog 33 #[.slice A 0 c, .bool neg, .int .i64 e] w (RetRow [128] w) := by
  go_enter Tryd.func33, Tryd.ntmps33
  go_wp2
  go_ret
  exact ⟨_, rfl, whole_row rfl (xb_new _ _) rfl (by unfold maxLen; omega) (Nat.le_refl _) rfl (Nat.le_refl _), (Below.refl _ _).alloc (Nat.le_refl _) _⟩

/-- How far the row is filled. -/
def Made (ps : List Int) (n r cap sz i : Nat) (w5 wr : World) : Prop :=
  i % 2 = 0 ∧ i ≤ n + 1 ∧ Below w5.heap.size w5 wr ∧ ∃ cur, wr.heap[r]? = some (.cells cur 5 (0, 0)) ∧ cur.size = cap ∧ cur.toList.take sz = nums .u8 (bufL ps sz i)
theorem Made.step {ps : List Int} {n r cap sz i : Nat} {w5 wr : World} {v : Int} (h : Made ps n r cap sz i w5 wr) (hi : i < n) (hr : w5.heap.size ≤ r) (hsz : ps.length + 1 ≤ sz)
    (hv : ps[i / 2]? = some v) : Made ps n r cap sz (i + 2) w5 (wr.setCell ⟨r, 1 + i / 2, none⟩ (.int .u8 v)) := by
  obtain ⟨h1, h2, h3, cur, h4, h5, h6⟩ := h
  refine ⟨by omega, by omega, h3.setCell hr _, _, xb_set h4 _ _, by simp only [Array.size_setIfInBounds]; exact h5, ?_⟩
  rw [take_set _ _ _ _ _ h6, bufL_set ps sz i v hv hsz]

theorem headB_tn {e : Int} (h : e < 0) : headB true e = Go.bits .xor .u8 ((Int.tdiv (e - 1) 2 + 1 + 64) % 256) 127 := by unfold headB; simp only [if_pos h, if_true]
theorem headB_tp {e : Int} (h : ¬ e < 0) : headB true e = Go.bits .xor .u8 ((e / 2 + 1 + 64) % 256) 127 := by unfold headB; simp only [if_neg h, if_true]; rw [Int.tdiv_eq_ediv_of_nonneg (by omega)]
theorem headB_fn {e : Int} (h : e < 0) : headB false e = Go.bits .or .u8 ((Int.tdiv (e - 1) 2 + 1 + 64) % 256) 128 := by unfold headB; simp only [if_pos h, Bool.false_eq_true, if_false]
theorem headB_fp {e : Int} (h : ¬ e < 0) : headB false e = Go.bits .or .u8 ((e / 2 + 1 + 64) % 256) 128 := by unfold headB; simp only [if_neg h, Bool.false_eq_true, if_false]; rw [Int.tdiv_eq_ediv_of_nonneg (by omega)]
theorem made_val {ps : List Int} {n r cap sz i : Nat} {w5 wr : World} {p : Addr} {v v' : Int} (h : Made ps n r cap sz i w5 (wr.setCell p (.int .u8 v))) (e : v = v') : Made ps n r cap sz i w5 (wr.setCell p (.int .u8 v')) := by subst e; exact h
set_option maxRecDepth 100000 in
set_option maxHeartbeats 4000000 in
theorem toNumber_some (A : Option Addr) (c : Nat) (l : List Int) (neg : Bool) (e : Int) (w : World) (hC : Kd.C (Kd.int .u8) w A l.length l) (hc : l.length ≤ c) (h0 : 0 < l.length) (hl : l.length ≤ 1099511627776) (he0 : -1000000 ≤ e) (he1 : e ≤ 1000000) :
    Calls Tryd.prog 33 #[.slice A l.length c, .bool neg, .int .i64 e] w (RetRow (toNum l neg e) w) := by
  have HC := Lib.hid hC
  have h00 : ((l.length : Int) == 0) = false := by rw [beq_eq_false_iff_ne]; omega
  clear hC
  obtain ⟨l', hl'⟩ : ∃ l', l' = evened l e := ⟨_, rfl⟩
  have hT : toNum l neg e = headB neg e :: (pairs neg l' ++ if neg = true ∧ l'.length < 21 then [102] else []) := by unfold toNum; rw [if_neg (by omega), hl']
  rw [hT]
  clear hT
  have hp1 : ∀ j, 2 * j + 1 < l'.length → (pairs neg l')[j]? = some (pairB neg (l'.getD (2 * j) 0) (l'.getD (2 * j + 1) 0)) := pairs_two neg l'
  have hp2 : ∀ j, 2 * j + 1 = l'.length → (pairs neg l')[j]? = some (oneB neg (l'.getD (2 * j) 0)) := pairs_one neg l'
  have hpl := pairs_length neg l'
  generalize pairs neg l' = ps at *
  obtain ⟨fin, hfin⟩ : ∃ fin, fin = headB neg e :: (ps ++ if neg = true ∧ l'.length < 21 then [102] else []) := ⟨_, rfl⟩
  rw [← hfin]
  have HF := Lib.hid hfin
  clear hfin
  have HP1 := Lib.hid hp1
  have HP2 := Lib.hid hp2
  have HPL := Lib.hid hpl
  clear hp1 hp2 hpl
  by_cases hev : Int.tmod e 2 = 0
  · have hev' : (Int.tmod e 2 == 0) = true := by simp [hev]
    have hE : Hid ([48] ++ l = l') := Lib.hid (by rw [hl']; unfold evened; rw [if_pos hev]; rfl)
    have hn0 : 0 < l'.length := by rw [← hE.out]; simp
    have hnl : l'.length ≤ 1099511627777 := by rw [← hE.out]; simp; omega
    clear hev hl'
    rcases (show (neg = true ∧ l'.length < 21) ∨ (neg = true ∧ ¬ l'.length < 21) ∨ neg = false by cases neg <;> by_cases h : l'.length < 21 <;> simp [h]) with ⟨rfl, h21⟩ | ⟨rfl, h21⟩ | rfl
    all_goals
      go_enter Tryd.func33, Tryd.ntmps33
      go_wp2_with (first | (at_builtin; refine Kd.R_append_rows (Kd.int .u8) (w0 := w) w.heap.size rfl (.tmp 19) (.tmp 20) 22 5 (.int .u8 0) 1 rfl Tryd.underlying22 info5x rfl (by decide) (by omega) (.slice (some ⟨w.heap.size, 0, none⟩) 1 1) [48] l _ _ _ (fun _ => True) (fun _ => False) rfl rfl ?aO ?aR (fun _ _ h => h) (fun _ h => h.elim) ?aF ?aB ?aS ?aL ?_; (case aR => exact (Kd.C_below HC.out ((Below.refl _ _).alloc (Nat.le_refl _) _))); (case aB => exact (Below.refl _ _).alloc (Nat.le_refl _) _); (case aF => exact (fun _ _ => trivial)); (case aO => exact whole_row rfl (xb_new _ _) rfl (by unfold maxLen; omega) (Nat.le_refl _) rfl (Nat.le_refl _)); (case aS => simp); (case aL => simp only [List.length_cons, List.length_nil]; omega); intro v256 w5 ho hb hg hat; rw [hE.out] at ho; obtain ⟨A', c', rfl, hle, hC'⟩ := Kd.R_reads ho; obtain ⟨ag, ao, rfl, hag, hcell⟩ := C_base hC' hn0; have HC' := Lib.hid hcell; have HB := Lib.hid hb; clear ho hb hg hat hC' hcell HC) | (refine Kd.R_make (Kd.int .u8) _ 5 rfl (N := 37) rfl 22 _ _ rfl _ rfl rfl Tryd.underlying22 (.int .u8 0) 1 info5x rfl (by decide) (by omega) 0 (ok := fun _ => True) (okp := fun _ => True) rfl (fun _ hk => hk) trivial (by omega) (by omega) (Below.refl _ _) (Nat.le_refl _) ?_; intro v1 w6 hR1 hB1 hg_ hnew_; clear hg_ hnew_; generalize hz : Int.toNat _ = sz at hR1; obtain ⟨r, cap, cur, rfl, hb, hs, hm, hcap, htk, hbase⟩ := row_open hR1 (by rw [List.length_replicate]; omega); rw [List.length_replicate] at hcap htk ⊢))
      have hM0 := Lib.hid (show Made ps l'.length r cap sz 0 w5 w6 from ⟨rfl, by omega, hB1, cur, hb, hs, (bufL_zero ps sz (by omega)).symm ▸ htk⟩)
      have hsz : (l'.length + 1) / 2 + 1 ≤ sz := by omega
      have hszu : sz ≤ 1099511627777 := by omega
      have hlen := Lib.hid hz
      clear hR1 hB1 hb hs htk hz
      go_loopw [10] (fun v10 wr => ∃ i : Nat, v10 = .int .i64 i ∧ Made ps l'.length r cap sz i w5 wr) (fun v10 _ => l'.length + 2 - (intOf v10).toNat)
      case atStart => exact ⟨0, rfl, hM0.out⟩
      case round =>
        obtain ⟨i, rfl, hM⟩ := hrel
        have hm' := hM
        obtain ⟨h2, hin, hBr, cu, hcu, hcs, hct⟩ := hm'
        have HM := Lib.hid hM
        by_cases hlt : i < l'.length
        · have x0 := bl_cell hBr (HC'.out i hlt)
          obtain ⟨y, hy⟩ : ∃ y, wr.cell? ⟨r, 1 + i / 2, none⟩ = some y := ⟨_, (xb_cell hcu (1 + i / 2)).trans (Array.getElem?_eq_getElem (by omega))⟩
          have hfr := blk_free hcu (1 + i / 2)
          have hbnd : 1 + (i : Int) / 2 < (sz : Int) := by omega
          by_cases hlt2 : i + 1 < l'.length
          · have x1 := bl_cell hBr (HC'.out (i + 1) hlt2)
            have hv := HP1.out (i / 2) (by omega)
            rw [show 2 * (i / 2) = i from by omega] at hv
            have HS := Lib.hid (hM.step hlt hbase (by rw [HPL.out]; omega) hv)
            clear hM hBr hcu hcs hct hv
            generalize l'.getD i 0 = a at *
            generalize l'.getD (i + 1) 0 = b at *
            go_wp2
            go_roundw
            case rel => exact ⟨i + 2, by go_num, made_val HS.out (by simp only [pairB, oneB, if_true, Bool.false_eq_true, if_false]; omega)⟩
            case measure => simp [intOf]; omega
          · have hv := HP2.out (i / 2) (by omega)
            rw [show 2 * (i / 2) = i from by omega] at hv
            have HS := Lib.hid (hM.step hlt hbase (by rw [HPL.out]; omega) hv)
            clear hM hBr hcu hcs hct hv
            generalize l'.getD i 0 = a at *
            go_wp2
            go_roundw
            case rel => exact ⟨i + 2, by go_num, made_val HS.out (by simp only [pairB, oneB, if_true, Bool.false_eq_true, if_false]; omega)⟩
            case measure => simp [intOf]; omega
        · have hend : i / 2 = ps.length := by rw [HPL.out]; omega
          rw [bufL_end ps sz i hend] at hct
          obtain ⟨y0, hy0⟩ : ∃ y, wr.cell? ⟨r, 0, none⟩ = some y := ⟨_, (xb_cell hcu 0).trans (Array.getElem?_eq_getElem (by omega))⟩
          obtain ⟨y1, hy1⟩ : ∃ y, wr.cell? ⟨r, sz - 1, none⟩ = some y := ⟨_, (xb_cell hcu (sz - 1)).trans (Array.getElem?_eq_getElem (by omega))⟩
          obtain ⟨y2, hy2⟩ : ∃ y, (wr.setCell ⟨r, sz - 1, none⟩ (.int .u8 102)).cell? ⟨r, 0, none⟩ = some y := ⟨_, (xb_cell (xb_set hcu (sz - 1) _) 0).trans (Array.getElem?_eq_getElem (by rw [Array.size_setIfInBounds]; omega))⟩
          have hf0 := blk_free hcu 0
          have hf1 := blk_free hcu (sz - 1)
          have hf2 := blk_free (xb_set hcu (sz - 1) (.int .u8 102)) 0
          have HCU := Lib.hid hcu
          have HCT := Lib.hid hct
          have HCS := Lib.hid hcs
          have HBR := Lib.hid hBr
          have hs1 : 1 < sz := by omega
          clear hcu hct hcs hBr hM
          have ht1 : -1000001 ≤ Int.tdiv (e - 1) 2 ∧ Int.tdiv (e - 1) 2 ≤ 1000000 := by
            by_cases h : 0 ≤ e - 1
            · rw [Int.tdiv_eq_ediv_of_nonneg h]; omega
            · have e' : e - 1 = -(1 - e) := by omega
              rw [e', Int.neg_tdiv, Int.tdiv_eq_ediv_of_nonneg (by omega)]; omega
          obtain ⟨ht2, ht3⟩ := ht1
          by_cases he2 : e < 0
          all_goals
            go_wp2
            go_ret
            have hl1 := hlen.out
            have hl2 := HPL.out
            have hF := HF.out
            first
              | (refine ⟨_, rfl, whole_row (l := fin) ?_ (xb_set (xb_set HCU.out (sz - 1) _) 0 _) (by simp only [Array.size_setIfInBounds]; exact HCS.out) hm hcap ((take_set _ _ _ _ _ (take_set _ _ _ _ _ HCT.out)).trans (congrArg (nums .u8) ?_)) (Nat.le_trans HB.out.size hbase), bl_trans HB.out ((HBR.out.setCell hbase _).setCell hbase _)⟩
                 · rw [hF, if_pos ⟨trivial, h21⟩]
                   simp only [List.length_cons, List.length_append, List.length_nil]
                   omega
                 · rw [hF, if_pos ⟨trivial, h21⟩, show sz - 1 - ps.length = 1 from by omega, show sz - 1 = ps.length + 1 from by omega, set_last 0 ps 102, List.set_cons_zero]
                   first | rw [headB_tn (e := e) (by omega)] | rw [headB_tp (e := e) (by omega)])
              | (refine ⟨_, rfl, whole_row (l := fin) ?_ (xb_set HCU.out 0 _) (by simp only [Array.size_setIfInBounds]; exact HCS.out) hm hcap ((take_set _ _ _ _ _ HCT.out).trans (congrArg (nums .u8) ?_)) (Nat.le_trans HB.out.size hbase), bl_trans HB.out (HBR.out.setCell hbase _)⟩
                 · rw [hF, if_neg (by first | exact fun h => h21 h.2 | exact fun h => Bool.noConfusion h.1)]
                   simp only [List.length_cons, List.length_append, List.length_nil]
                   omega
                 · rw [hF, if_neg (by first | exact fun h => h21 h.2 | exact fun h => Bool.noConfusion h.1), show sz - 1 - ps.length = 0 from by omega, List.replicate_zero, List.set_cons_zero]
                   first | rw [headB_tn (e := e) (by omega)] | rw [headB_tp (e := e) (by omega)] | rw [headB_fn (e := e) (by omega)] | rw [headB_fp (e := e) (by omega)])
  · have hev' : (Int.tmod e 2 == 0) = false := by simp [hev]
    have hll : l' = l := by rw [hl']; unfold evened; rw [if_neg hev]
    clear hev hl'
    subst hll
    have hn0 : 0 < l'.length := h0
    have hnl : l'.length ≤ 1099511627777 := by omega
    obtain ⟨ag, ao, rfl, hag, hcell⟩ := C_base HC.out hn0
    have HC' := Lib.hid hcell
    obtain ⟨w5, hw5⟩ : ∃ w5, w5 = w := ⟨_, rfl⟩
    subst hw5
    have HB := Lib.hid (Below.refl w5.heap.size w5)
    clear HC hcell
    rcases (show (neg = true ∧ l'.length < 21) ∨ (neg = true ∧ ¬ l'.length < 21) ∨ neg = false by cases neg <;> by_cases h : l'.length < 21 <;> simp [h]) with ⟨rfl, h21⟩ | ⟨rfl, h21⟩ | rfl
    all_goals
      go_enter Tryd.func33, Tryd.ntmps33
      go_wp2_with (first  | (refine Kd.R_make (Kd.int .u8) _ 5 rfl (N := 37) rfl 22 _ _ rfl _ rfl rfl Tryd.underlying22 (.int .u8 0) 1 info5x rfl (by decide) (by omega) 0 (ok := fun _ => True) (okp := fun _ => True) rfl (fun _ hk => hk) trivial (by omega) (by omega) (Below.refl _ _) (Nat.le_refl _) ?_; intro v1 w6 hR1 hB1 hg_ hnew_; clear hg_ hnew_; generalize hz : Int.toNat _ = sz at hR1; obtain ⟨r, cap, cur, rfl, hb, hs, hm, hcap, htk, hbase⟩ := row_open hR1 (by rw [List.length_replicate]; omega); rw [List.length_replicate] at hcap htk ⊢))
      have hM0 := Lib.hid (show Made ps l'.length r cap sz 0 w5 w6 from ⟨rfl, by omega, hB1, cur, hb, hs, (bufL_zero ps sz (by omega)).symm ▸ htk⟩)
      have hsz : (l'.length + 1) / 2 + 1 ≤ sz := by omega
      have hszu : sz ≤ 1099511627777 := by omega
      have hlen := Lib.hid hz
      clear hR1 hB1 hb hs htk hz
      go_loopw [10] (fun v10 wr => ∃ i : Nat, v10 = .int .i64 i ∧ Made ps l'.length r cap sz i w5 wr) (fun v10 _ => l'.length + 2 - (intOf v10).toNat)
      case atStart => exact ⟨0, rfl, hM0.out⟩
      case round =>
        obtain ⟨i, rfl, hM⟩ := hrel
        have hm' := hM
        obtain ⟨h2, hin, hBr, cu, hcu, hcs, hct⟩ := hm'
        have HM := Lib.hid hM
        by_cases hlt : i < l'.length
        · have x0 := bl_cell hBr (HC'.out i hlt)
          obtain ⟨y, hy⟩ : ∃ y, wr.cell? ⟨r, 1 + i / 2, none⟩ = some y := ⟨_, (xb_cell hcu (1 + i / 2)).trans (Array.getElem?_eq_getElem (by omega))⟩
          have hfr := blk_free hcu (1 + i / 2)
          have hbnd : 1 + (i : Int) / 2 < (sz : Int) := by omega
          by_cases hlt2 : i + 1 < l'.length
          · have x1 := bl_cell hBr (HC'.out (i + 1) hlt2)
            have hv := HP1.out (i / 2) (by omega)
            rw [show 2 * (i / 2) = i from by omega] at hv
            have HS := Lib.hid (hM.step hlt hbase (by rw [HPL.out]; omega) hv)
            clear hM hBr hcu hcs hct hv
            generalize l'.getD i 0 = a at *
            generalize l'.getD (i + 1) 0 = b at *
            go_wp2
            go_roundw
            case rel => exact ⟨i + 2, by go_num, made_val HS.out (by simp only [pairB, oneB, if_true, Bool.false_eq_true, if_false]; omega)⟩
            case measure => simp [intOf]; omega
          · have hv := HP2.out (i / 2) (by omega)
            rw [show 2 * (i / 2) = i from by omega] at hv
            have HS := Lib.hid (hM.step hlt hbase (by rw [HPL.out]; omega) hv)
            clear hM hBr hcu hcs hct hv
            generalize l'.getD i 0 = a at *
            go_wp2
            go_roundw
            case rel => exact ⟨i + 2, by go_num, made_val HS.out (by simp only [pairB, oneB, if_true, Bool.false_eq_true, if_false]; omega)⟩
            case measure => simp [intOf]; omega
        · have hend : i / 2 = ps.length := by rw [HPL.out]; omega
          rw [bufL_end ps sz i hend] at hct
          obtain ⟨y0, hy0⟩ : ∃ y, wr.cell? ⟨r, 0, none⟩ = some y := ⟨_, (xb_cell hcu 0).trans (Array.getElem?_eq_getElem (by omega))⟩
          obtain ⟨y1, hy1⟩ : ∃ y, wr.cell? ⟨r, sz - 1, none⟩ = some y := ⟨_, (xb_cell hcu (sz - 1)).trans (Array.getElem?_eq_getElem (by omega))⟩
          obtain ⟨y2, hy2⟩ : ∃ y, (wr.setCell ⟨r, sz - 1, none⟩ (.int .u8 102)).cell? ⟨r, 0, none⟩ = some y := ⟨_, (xb_cell (xb_set hcu (sz - 1) _) 0).trans (Array.getElem?_eq_getElem (by rw [Array.size_setIfInBounds]; omega))⟩
          have hf0 := blk_free hcu 0
          have hf1 := blk_free hcu (sz - 1)
          have hf2 := blk_free (xb_set hcu (sz - 1) (.int .u8 102)) 0
          have HCU := Lib.hid hcu
          have HCT := Lib.hid hct
          have HCS := Lib.hid hcs
          have HBR := Lib.hid hBr
          have hs1 : 1 < sz := by omega
          clear hcu hct hcs hBr hM
          have ht1 : -1000001 ≤ Int.tdiv (e - 1) 2 ∧ Int.tdiv (e - 1) 2 ≤ 1000000 := by
            by_cases h : 0 ≤ e - 1
            · rw [Int.tdiv_eq_ediv_of_nonneg h]; omega
            · have e' : e - 1 = -(1 - e) := by omega
              rw [e', Int.neg_tdiv, Int.tdiv_eq_ediv_of_nonneg (by omega)]; omega
          obtain ⟨ht2, ht3⟩ := ht1
          by_cases he2 : e < 0
          all_goals
            go_wp2
            go_ret
            have hl1 := hlen.out
            have hl2 := HPL.out
            have hF := HF.out
            first
              | (refine ⟨_, rfl, whole_row (l := fin) ?_ (xb_set (xb_set HCU.out (sz - 1) _) 0 _) (by simp only [Array.size_setIfInBounds]; exact HCS.out) hm hcap ((take_set _ _ _ _ _ (take_set _ _ _ _ _ HCT.out)).trans (congrArg (nums .u8) ?_)) (Nat.le_trans HB.out.size hbase), bl_trans HB.out ((HBR.out.setCell hbase _).setCell hbase _)⟩
                 · rw [hF, if_pos ⟨trivial, h21⟩]
                   simp only [List.length_cons, List.length_append, List.length_nil]
                   omega
                 · rw [hF, if_pos ⟨trivial, h21⟩, show sz - 1 - ps.length = 1 from by omega, show sz - 1 = ps.length + 1 from by omega, set_last 0 ps 102, List.set_cons_zero]
                   first | rw [headB_tn (e := e) (by omega)] | rw [headB_tp (e := e) (by omega)])
              | (refine ⟨_, rfl, whole_row (l := fin) ?_ (xb_set HCU.out 0 _) (by simp only [Array.size_setIfInBounds]; exact HCS.out) hm hcap ((take_set _ _ _ _ _ HCT.out).trans (congrArg (nums .u8) ?_)) (Nat.le_trans HB.out.size hbase), bl_trans HB.out (HBR.out.setCell hbase _)⟩
                 · rw [hF, if_neg (by first | exact fun h => h21 h.2 | exact fun h => Bool.noConfusion h.1)]
                   simp only [List.length_cons, List.length_append, List.length_nil]
                   omega
                 · rw [hF, if_neg (by first | exact fun h => h21 h.2 | exact fun h => Bool.noConfusion h.1), show sz - 1 - ps.length = 0 from by omega, List.replicate_zero, List.set_cons_zero]
                   first | rw [headB_tn (e := e) (by omega)] | rw [headB_tp (e := e) (by omega)] | rw [headB_fn (e := e) (by omega)] | rw [headB_fp (e := e) (by omega)])

def converters_ToNumber.f (l0 : List Int) (a1 : Bool) (a2 : Int) : Option (List Int) := if l0.length ≤ 1099511627776 then (if -1000000 ≤ a2 ∧ a2 ≤ 1000000 then some (toNum l0 a1 a2) else none) else none
theorem converters_ToNumber.calls (A0 : Option Addr) (c0 : Nat) (l0 : List Int) (a1 : Bool) (a2 : Int) (r : List Int) (w : World) (hr0 : Kd.C (Kd.int .u8) w A0 l0.length l0) (hc0 : l0.length ≤ c0) (h : converters_ToNumber.f l0 a1 a2 = some r) :
    Calls Tryd.prog 33 #[.slice A0 l0.length c0, .bool a1, .int .i64 a2] w fun e w' => ∃ v0_ : Value, e = .returned (v0_) ∧ Kd.R (Kd.int .u8) 5 w' w.heap.size (fun _ => True) v0_ r ∧ Below w.heap.size w w' := by
  unfold converters_ToNumber.f at h
  split at h
  · rename_i h1
    split at h
    · rename_i h2
      obtain rfl := Option.some.inj h
      show Calls _ _ _ w (RetRow _ w)
      by_cases h0 : 0 < l0.length
      · exact toNumber_some A0 c0 l0 a1 a2 w hr0 hc0 h0 h1 h2.1 h2.2
      · have hz : l0 = [] := List.eq_nil_of_length_eq_zero (by omega)
        subst hz
        exact toNumber_none A0 c0 a1 a2 w
    · cases h
  · cases h
end Go.Proofs.YtepooaejlofkkaaDoor.X
