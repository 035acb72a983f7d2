/- A session writes numbers: the rows that binary's Put.. fill, zzTrimZeros. -/
import Derived.Test.YtdnahdddkagfhaaDoorWt
import Derived.Test.YtdnahdddkagfhaaDoorDp
import Derived.Lib.Endian
import Derived.Deep.Upon
namespace Go.Proofs.YtdnahdddkagfhaaDoor.X
open Go.RowKit Go.Proofs.YtdnahdddkagfhaaDoorW.PrintWords Go.Proofs.YtdnahdddkagfhaaDoorW.PrintMore
attribute [local go_sem] setCell_drewN alloc_drewN
set_option linter.unusedVariables false
set_option linter.unusedSimpArgs false
namespace Ses
/-- A row of bytes at block t. -/
def RowAt (w : World) (t : Nat) (l : List Int) : Prop := ∀ i : Nat, i < l.length → w.cell? ⟨t, i, none⟩ = some (.int .u8 (l.getD i 0))
theorem le_cells : ∀ (k v : Nat), Lib.byteCells (Lib.leBytes k v) = nums .u8 (Dg.plainL k (v : Int))
  | 0, _ => rfl
  | k + 1, v => by
    have ih := le_cells k (v / 256)
    rw [Int.natCast_ediv] at ih
    show Value.int .u8 (((v % 256).toUInt8).toNat : Int) :: Lib.byteCells (Lib.leBytes k (v / 256)) = Value.int .u8 ((v : Int) % 256) :: nums .u8 (Dg.plainL k ((v : Int) / 256))
    rw [ih, Lib.toUInt8_mod, Int.natCast_emod]
    rfl
theorem be_cells (k v : Nat) : Lib.byteCells (Lib.beBytes k v) = nums .u8 (Dg.plainL k (v : Int)).reverse := by
  have h := le_cells k v
  unfold Lib.byteCells at h ⊢
  rw [Lib.beBytes, List.map_reverse, h, nums, nums, List.map_reverse]
/-- What a Put leaves: the row holds these bytes; all else is as it was. -/
def PutP (t : Nat) (l : List Int) (w : World) (e : Ending) (w' : World) : Prop := e = .returned (.tuple #[]) ∧ RowAt w' t l ∧ w.grownBy w' (some t)
theorem tape_setCells (b : Nat) : ∀ (vs : List Value) (o : Nat) (w : World), (w.setCells b o vs).tape = w.tape
  | [], _, _ => rfl
  | v :: vs, o, w => by
    show ((w.setCell ⟨b, o, none⟩ v).setCells b (o + 1) vs).tape = _
    rw [tape_setCells b vs]
    rfl
theorem size_setCellsS (b : Nat) : ∀ (vs : List Value) (o : Nat) (w : World), (w.setCells b o vs).heap.size = w.heap.size
  | [], _, _ => rfl
  | v :: vs, o, w => by
    show ((w.setCell ⟨b, o, none⟩ v).setCells b (o + 1) vs).heap.size = _
    rw [size_setCellsS b vs, World.size_setCell]
theorem putP_of (t : Nat) (T : TypeId) (l : List Int) (cur : Array Value) (w : World) (hrow : w.heap[t]? = some (.cells cur 5 (0, 0))) (hs : cur.size = l.length) :
    RowAt ((w.alloc (.cells #[] T)).setCells t 0 (nums .u8 l)) t l ∧ w.grownBy ((w.alloc (.cells #[] T)).setCells t 0 (nums .u8 l)) (some t) := by
  have hrow' := xb_alloc (o' := .cells #[] T) hrow
  refine ⟨fun i hi => ?_, ⟨(World.os_setCells ..), tape_setCells .., World.output_setCells .., ?_, fun k hk hne => ?_⟩⟩
  · have h := World.cell?_setCells_in t (nums .u8 l) 0 (w.alloc (.cells #[] T)) (fun j hj => by
      rw [nums_length] at hj
      rw [Nat.zero_add, xb_cell hrow', Array.getElem?_eq_getElem (by omega)]
      rfl) i (by rw [nums_length]; exact hi)
    rw [Nat.zero_add] at h
    rw [h]
    simp [nums, List.getD_eq_getElem?_getD, List.getElem?_eq_getElem hi]
  · rw [size_setCellsS, World.size_alloc]
    omega
  · rw [World.heap_setCells_other _ t 0 _ (by rw [World.size_alloc]; omega) (fun e => hne (by rw [e]))]
    exact Below.heap_alloc w _ k hk
theorem bePut2 (t c v : Nat) (cur : Array Value) (w : World) (hv : v < 65536) (hrow : w.heap[t]? = some (.cells cur 5 (0, 0))) (hs : cur.size = 2) :
    Calls Tryd.prog 62 #[.agg #[], .slice (some ⟨t, 0, none⟩) 2 c, .int .u16 v] w (PutP t (Dg.plainL 2 (v : Int)).reverse w) := by
  have hc : ∀ i, i < 2 → w.cell? ⟨t, 0 + i, none⟩ = some (cur.getD i (.int .u8 0)) := fun i hi => by
    rw [Nat.zero_add, xb_cell hrow, Array.getElem?_eq_getElem (by omega), Array.getD_eq_getD_getElem?, Array.getElem?_eq_getElem (by omega)]
    rfl
  have hf : ∀ i, w.frozen? ⟨t, 0 + i, none⟩ = false := fun i => blk_free hrow (0 + i)
  refine (Tryd.binary_BE_PutUint16 t 0 2 c v hv _ _ w (Nat.le_refl _) (hc 0 (by omega)) (hc 1 (by omega)) (hf 0) (hf 1)).mono ?_
  rintro e w' ⟨rfl, rfl⟩
  rw [be_cells]
  obtain ⟨h1, h2⟩ := putP_of t _ (Dg.plainL 2 (v : Int)).reverse cur w hrow (by rw [hs]; first | rw [List.length_reverse, Dg.plainL_len] | rw [Dg.plainL_len])
  exact ⟨rfl, h1, h2⟩
theorem bePut4 (t c v : Nat) (cur : Array Value) (w : World) (hv : v < 4294967296) (hrow : w.heap[t]? = some (.cells cur 5 (0, 0))) (hs : cur.size = 4) :
    Calls Tryd.prog 63 #[.agg #[], .slice (some ⟨t, 0, none⟩) 4 c, .int .u32 v] w (PutP t (Dg.plainL 4 (v : Int)).reverse w) := by
  have hc : ∀ i, i < 4 → w.cell? ⟨t, 0 + i, none⟩ = some (cur.getD i (.int .u8 0)) := fun i hi => by
    rw [Nat.zero_add, xb_cell hrow, Array.getElem?_eq_getElem (by omega), Array.getD_eq_getD_getElem?, Array.getElem?_eq_getElem (by omega)]
    rfl
  have hf : ∀ i, w.frozen? ⟨t, 0 + i, none⟩ = false := fun i => blk_free hrow (0 + i)
  refine (Tryd.binary_BE_PutUint32 t 0 4 c v hv _ _ _ _ w (Nat.le_refl _) (hc 0 (by omega)) (hc 1 (by omega)) (hc 2 (by omega)) (hc 3 (by omega)) (hf 0) (hf 1) (hf 2) (hf 3)).mono ?_
  rintro e w' ⟨rfl, rfl⟩
  rw [be_cells]
  obtain ⟨h1, h2⟩ := putP_of t _ (Dg.plainL 4 (v : Int)).reverse cur w hrow (by rw [hs]; first | rw [List.length_reverse, Dg.plainL_len] | rw [Dg.plainL_len])
  exact ⟨rfl, h1, h2⟩
theorem bePut8 (t c v : Nat) (cur : Array Value) (w : World) (hv : v < 18446744073709551616) (hrow : w.heap[t]? = some (.cells cur 5 (0, 0))) (hs : cur.size = 8) :
    Calls Tryd.prog 60 #[.agg #[], .slice (some ⟨t, 0, none⟩) 8 c, .int .u64 v] w (PutP t (Dg.plainL 8 (v : Int)).reverse w) := by
  have hc : ∀ i, i < 8 → w.cell? ⟨t, 0 + i, none⟩ = some (cur.getD i (.int .u8 0)) := fun i hi => by
    rw [Nat.zero_add, xb_cell hrow, Array.getElem?_eq_getElem (by omega), Array.getD_eq_getD_getElem?, Array.getElem?_eq_getElem (by omega)]
    rfl
  have hf : ∀ i, w.frozen? ⟨t, 0 + i, none⟩ = false := fun i => blk_free hrow (0 + i)
  refine (Tryd.binary_BE_PutUint64 t 0 8 c v hv _ _ _ _ _ _ _ _ w (Nat.le_refl _) (hc 0 (by omega)) (hc 1 (by omega)) (hc 2 (by omega)) (hc 3 (by omega)) (hc 4 (by omega)) (hc 5 (by omega)) (hc 6 (by omega)) (hc 7 (by omega)) (hf 0) (hf 1) (hf 2) (hf 3) (hf 4) (hf 5) (hf 6) (hf 7)).mono ?_
  rintro e w' ⟨rfl, rfl⟩
  rw [be_cells]
  obtain ⟨h1, h2⟩ := putP_of t _ (Dg.plainL 8 (v : Int)).reverse cur w hrow (by rw [hs]; first | rw [List.length_reverse, Dg.plainL_len] | rw [Dg.plainL_len])
  exact ⟨rfl, h1, h2⟩
theorem lePut2 (t c v : Nat) (cur : Array Value) (w : World) (hv : v < 65536) (hrow : w.heap[t]? = some (.cells cur 5 (0, 0))) (hs : cur.size = 2) :
    Calls Tryd.prog 64 #[.agg #[], .slice (some ⟨t, 0, none⟩) 2 c, .int .u16 v] w (PutP t (Dg.plainL 2 (v : Int)) w) := by
  have hc : ∀ i, i < 2 → w.cell? ⟨t, 0 + i, none⟩ = some (cur.getD i (.int .u8 0)) := fun i hi => by
    rw [Nat.zero_add, xb_cell hrow, Array.getElem?_eq_getElem (by omega), Array.getD_eq_getD_getElem?, Array.getElem?_eq_getElem (by omega)]
    rfl
  have hf : ∀ i, w.frozen? ⟨t, 0 + i, none⟩ = false := fun i => blk_free hrow (0 + i)
  refine (Tryd.binary_LE_PutUint16 t 0 2 c v hv _ _ w (Nat.le_refl _) (hc 0 (by omega)) (hc 1 (by omega)) (hf 0) (hf 1)).mono ?_
  rintro e w' ⟨rfl, rfl⟩
  rw [le_cells]
  obtain ⟨h1, h2⟩ := putP_of t _ (Dg.plainL 2 (v : Int)) cur w hrow (by rw [hs]; first | rw [List.length_reverse, Dg.plainL_len] | rw [Dg.plainL_len])
  exact ⟨rfl, h1, h2⟩
theorem lePut4 (t c v : Nat) (cur : Array Value) (w : World) (hv : v < 4294967296) (hrow : w.heap[t]? = some (.cells cur 5 (0, 0))) (hs : cur.size = 4) :
    Calls Tryd.prog 65 #[.agg #[], .slice (some ⟨t, 0, none⟩) 4 c, .int .u32 v] w (PutP t (Dg.plainL 4 (v : Int)) w) := by
  have hc : ∀ i, i < 4 → w.cell? ⟨t, 0 + i, none⟩ = some (cur.getD i (.int .u8 0)) := fun i hi => by
    rw [Nat.zero_add, xb_cell hrow, Array.getElem?_eq_getElem (by omega), Array.getD_eq_getD_getElem?, Array.getElem?_eq_getElem (by omega)]
    rfl
  have hf : ∀ i, w.frozen? ⟨t, 0 + i, none⟩ = false := fun i => blk_free hrow (0 + i)
  refine (Tryd.binary_LE_PutUint32 t 0 4 c v hv _ _ _ _ w (Nat.le_refl _) (hc 0 (by omega)) (hc 1 (by omega)) (hc 2 (by omega)) (hc 3 (by omega)) (hf 0) (hf 1) (hf 2) (hf 3)).mono ?_
  rintro e w' ⟨rfl, rfl⟩
  rw [le_cells]
  obtain ⟨h1, h2⟩ := putP_of t _ (Dg.plainL 4 (v : Int)) cur w hrow (by rw [hs]; first | rw [List.length_reverse, Dg.plainL_len] | rw [Dg.plainL_len])
  exact ⟨rfl, h1, h2⟩
theorem lePut8 (t c v : Nat) (cur : Array Value) (w : World) (hv : v < 18446744073709551616) (hrow : w.heap[t]? = some (.cells cur 5 (0, 0))) (hs : cur.size = 8) :
    Calls Tryd.prog 66 #[.agg #[], .slice (some ⟨t, 0, none⟩) 8 c, .int .u64 v] w (PutP t (Dg.plainL 8 (v : Int)) w) := by
  have hc : ∀ i, i < 8 → w.cell? ⟨t, 0 + i, none⟩ = some (cur.getD i (.int .u8 0)) := fun i hi => by
    rw [Nat.zero_add, xb_cell hrow, Array.getElem?_eq_getElem (by omega), Array.getD_eq_getD_getElem?, Array.getElem?_eq_getElem (by omega)]
    rfl
  have hf : ∀ i, w.frozen? ⟨t, 0 + i, none⟩ = false := fun i => blk_free hrow (0 + i)
  refine (Tryd.binary_LE_PutUint64 t 0 8 c v hv _ _ _ _ _ _ _ _ w (Nat.le_refl _) (hc 0 (by omega)) (hc 1 (by omega)) (hc 2 (by omega)) (hc 3 (by omega)) (hc 4 (by omega)) (hc 5 (by omega)) (hc 6 (by omega)) (hc 7 (by omega)) (hf 0) (hf 1) (hf 2) (hf 3) (hf 4) (hf 5) (hf 6) (hf 7)).mono ?_
  rintro e w' ⟨rfl, rfl⟩
  rw [le_cells]
  obtain ⟨h1, h2⟩ := putP_of t _ (Dg.plainL 8 (v : Int)) cur w hrow (by rw [hs]; first | rw [List.length_reverse, Dg.plainL_len] | rw [Dg.plainL_len])
  exact ⟨rfl, h1, h2⟩
theorem dropW : ∀ (l : List Int) (j : Nat), j ≤ l.length → (∀ i, i < j → l.getD i 0 = 0) → (j = l.length ∨ l.getD j 0 ≠ 0) → l.drop j = l.dropWhile (· == 0)
  | [], j, hj, _, _ => by simp
  | x :: l, 0, _, _, h => by
    rcases h with h | h
    · simp at h
    · have hx : x ≠ 0 := by simpa using h
      rw [List.drop_zero, List.dropWhile_cons]
      simp [hx]
  | x :: l, j + 1, hj, h0, h => by
    have hx : x = 0 := by simpa using h0 0 (by omega)
    subst hx
    rw [List.drop_succ_cons, List.dropWhile_cons]
    simp only [beq_self_eq_true, if_true]
    refine dropW l j (by simpa using hj) (fun i hi => ?_) ?_
    · simpa using h0 (i + 1) (by omega)
    · rcases h with h | h
      · exact .inl (by simpa using h)
      · exact .inr (by simpa using h)
end Ses
/-- What zzTrimZeros gives: what is behind the zeros. -/
def Ses.TrimP (t : Nat) (p : List Int) (w : World) (e : Ending) (w' : World) : Prop := ∃ o c, e = .returned (.slice (some ⟨t, o, none⟩) p.length c) ∧ Kd.C (Kd.int .u8) w (some ⟨t, o, none⟩) p.length p ∧ w' = w
set_option maxHeartbeats 1000000 in
set_option maxRecDepth 100000 in
/-- zzTrimZeros of a whole row. -/
theorem trimZeros_ok (t n : Nat) (l : List Int) (w : World) (hn : l.length = n) (hn0 : 0 < n) (hnm : n ≤ 100) (hc : Ses.RowAt w t l) :
    Calls Tryd.prog 61 #[.slice (some ⟨t, 0, none⟩) n n] w (Ses.TrimP t (l.dropWhile (· == 0)) w) := by
  have HC := Lib.hid hc
  have HN := Lib.hid hn
  clear hc hn
  go_enter Tryd.func61, Tryd.ntmps61
  go_wp2
  go_loop [0] (fun v => ∃ j o : Nat, j ≤ n ∧ v = .slice (some ⟨t, o, none⟩) (n - j) (n - j) ∧ Hid ((j < n → o = j) ∧ ∀ i, i < j → l.getD i 0 = 0)) (fun v => match v with | .slice _ m _ => m | _ => 0)
  case atStart => exact ⟨0, 0, Nat.zero_le _, rfl, Lib.hid ⟨fun _ => rfl, fun i hi => absurd hi (Nat.not_lt_zero _)⟩⟩
  case round =>
    obtain ⟨j, o, hj, rfl, HJ⟩ := hrel
    by_cases hlt : j < n
    · obtain rfl := HJ.out.1 hlt
      obtain ⟨y, hy⟩ : ∃ y, y = l.getD o 0 := ⟨_, rfl⟩
      have x0 := HC.out o (by rw [HN.out]; exact hlt)
      rw [← hy] at x0
      have HY := Lib.hid hy
      have k0 : 0 < n - o := by omega
      clear hy
      by_cases hz : y = 0
      · rw [hz] at x0
        have HZ := Lib.hid hz
        clear hz
        by_cases h1 : n - o = 1
        · have q1 : (n - o = 1) = True := eq_true h1
          clear h1
          go_wp2
          go_round
          case measure => (show n - o - 1 < n - o); omega
          case rel =>
            have h1 : n - o = 1 := of_eq_true q1
            refine ⟨o + 1, o, by omega, by rw [show n - (o + 1) = n - o - 1 by omega], Lib.hid ⟨fun h => absurd h (by omega), fun i hi => ?_⟩⟩
            rcases Nat.lt_or_ge i o with h | h
            · exact HJ.out.2 i h
            · obtain rfl : i = o := by omega
              rw [← HY.out]; exact HZ.out
        · have q1 : (n - o = 1) = False := eq_false h1
          clear h1
          go_wp2
          go_round
          case measure => (show n - o - 1 < n - o); omega
          case rel =>
            refine ⟨o + 1, o + 1, by omega, by rw [show n - (o + 1) = n - o - 1 by omega], Lib.hid ⟨fun h => rfl, fun i hi => ?_⟩⟩
            rcases Nat.lt_or_ge i o with h | h
            · exact HJ.out.2 i h
            · obtain rfl : i = o := by omega
              rw [← HY.out]; exact HZ.out
      · have t0 : (y == 0) = false := beq_eq_false_iff_ne.2 hz
        have HZ := Lib.hid hz
        clear hz
        go_wp2
        go_ret
        have e := Ses.dropW l o (by rw [HN.out]; omega) HJ.out.2 (.inr (by rw [← HY.out]; exact HZ.out))
        have hl : (l.drop o).length = n - o := by rw [List.length_drop, HN.out]
        rw [← e]
        refine ⟨o, n - o, by rw [hl]; rfl, ?_, rfl⟩
        have hC := C_of (k := .u8) (w := w) (l := l.drop o) (g := t) (o := o) (by omega) (fun i hi => by
          rw [HC.out (o + i) (by rw [HN.out]; omega)]
          simp [List.getD_eq_getElem?_getD, List.getElem?_drop])
        exact hC
    · have hjn : j = n := by omega
      have HJn := Lib.hid hjn
      have k1 : n - j = 0 := by omega
      have e := Ses.dropW l j (by rw [HN.out]; omega) HJ.out.2 (.inl (by rw [HN.out]; exact hjn))
      have hl : l.drop j = [] := by rw [List.drop_eq_nil_iff, HN.out]; omega
      rw [hl] at e
      rw [k1]
      have HE := Lib.hid e
      clear k1 hjn e hl
      go_wp2
      go_ret
      rw [← HE.out]
      exact ⟨o, 0, rfl, ⟨rfl, by simp, fun h => absurd h (Nat.lt_irrefl 0)⟩, rfl⟩
end Go.Proofs.YtdnahdddkagfhaaDoor.X
