/- Compressed numbers are read: Peek, impl.long, GetInt64. -/
import Derived.Test.YtdnahdddkagfhaaDoorLv
namespace Go.Proofs.YtdnahdddkagfhaaDoor.X
open Go.RowKit Go.Proofs.YtdnahdddkagfhaaDoorW.PrintWords Go.Proofs.YtdnahdddkagfhaaDoorW.PrintLast Go.Proofs.YtdnahdddkagfhaaDoorW.PrintMore
attribute [local go_sem] setCell_drewN alloc_drewN
set_option linter.unusedVariables false
set_option linter.unusedSimpArgs false
set_option maxHeartbeats 2000000 in
set_option maxRecDepth 100000 in
theorem peek_one (w : World) (b g c : Nat) (l : List Int) (idx : Nat) (big : Bool) (chunk : Int) (h : Ses.RS w b g c l idx big chunk) (hk : idx + 1 ≤ l.length) :
    Calls Tryd.prog 78 #[.pointer (some ⟨b, 0, none⟩), .int .i64 1] w fun e w' => e = .returned (.tuple #[.slice (some ⟨g, idx, none⟩) 1 (c - idx), .nilIface]) ∧ Ses.RS w' b g c l idx big chunk ∧ w.grownBy w' (some b) := by
  have hr := read_ok w b g c l idx 1 big chunk h hk (by omega)
  rw [show ((1 : Nat) : Int) = 1 from rfl] at hr
  have HR := Lib.hid hr
  have c4 := h.c4
  clear h hr
  go_enter Tryd.func78, Tryd.ntmps78
  go_wp2_with (go_at_call 82; (with_reducible refine HR.out.mono ?_); rintro e w1 ⟨rfl, hrs, hg⟩; have d4 := hrs.c4; have f4 := blk_free hrs.blk 4; have HRS := Lib.hid hrs; have HG := Lib.hid hg; clear hrs hg)
  go_ret2
  exact ⟨rfl, HRS.out.put idx, grown_set HG.out⟩
set_option maxHeartbeats 2000000 in
set_option maxRecDepth 100000 in
theorem long_ok (w : World) (b g c : Nat) (l : List Int) (idx : Nat) (big : Bool) (chunk x m : Int) (h : Ses.RS w b g c l idx big chunk) (hk : idx + 1 ≤ l.length) (hx : l.getD idx 0 = x) (hm : Go.bits .and .u8 x 127 = m) (hm8 : m ≤ 8) :
    Calls Tryd.prog 71 #[.pointer (some ⟨b, 0, none⟩)] w fun e w' => e = .returned (.bool false) ∧ Ses.RS w' b g c l idx big chunk ∧ w.grownBy w' (some b) := by
  have HP := Lib.hid (peek_one w b g c l idx big chunk h hk)
  have HC := Lib.hid (fun W (hw : Ses.RS W b g c l idx big chunk) => (hw.cells idx (by omega)).trans (by rw [hx]))
  have dm : decide (8 < m) = false := decide_eq_false (by omega)
  clear h hk hx
  go_enter Tryd.func71, Tryd.ntmps71
  go_wp2_with (go_at_call 78; (with_reducible refine HP.out.mono ?_); rintro e w1 ⟨rfl, hrs, hg⟩; have x0 := HC.out _ hrs; have HRS := Lib.hid hrs; have HG := Lib.hid hg; clear hrs hg)
  go_ret
  exact ⟨rfl, HRS.out, HG.out⟩
/-- The eight bytes of a number of m bytes, the most significant one ahead. -/
def Ses.eight (xs : List Int) : List Int := List.replicate (8 - xs.length) 0 ++ xs
def Ses.beVal (xs : List Int) : Int := (Lib.beNat ((Ses.eight xs).map fun y => UInt8.ofNat y.toNat) : Int)
def Ses.zeros8 : Array Value := #[.int .u8 0, .int .u8 0, .int .u8 0, .int .u8 0, .int .u8 0, .int .u8 0, .int .u8 0, .int .u8 0]
theorem Ses.make8 (W : World) : (Instr.makeSlice 22 (.int .i64 8) (.int .i64 8)).run Tryd.prog W = .ok (.slice (some ⟨W.heap.size, 0, none⟩) 8 8) (W.alloc (.cells Ses.zeros8 5)) := by
  have hi5 : (Tryd.prog.info? 5).map (fun i => (i.zero, i.size, i.bytes)) = some (some (.int .u8 0), 1, 1) := by kernel_rfl
  obtain ⟨i0, hi, hz0, hz1, hz2⟩ := info_parts hi5
  have h := run_makeSlice (P := Tryd.prog) W 22 5 i0 (.int .u8 0) Tryd.underlying22 hi hz0 .i64 .i64 8 8 (by omega) (by omega) (by rw [hz1]; decide) (by rw [hz2]; decide) (by decide)
  rw [hz1] at h
  have e : madeCells (Value.int .u8 0).cells ((8 : Int).toNat * 1) = Ses.zeros8 := by
    apply Array.ext'
    unfold madeCells
    rw [Array.toList_map, Array.toList_range]
    rfl
  rw [e] at h
  exact h
/-- The row of eight behind the copy. -/
theorem Ses.eight_row (xs : List Int) (h : xs.length ≤ 8) : (Ses.zeros8.toList.take (8 - xs.length) ++ nums .u8 xs ++ Ses.zeros8.toList.drop (8 - xs.length + (nums .u8 xs).length)).toArray = (nums .u8 (Ses.eight xs)).toArray := by
  have hl : (nums .u8 xs).length = xs.length := nums_length ..
  have e : Ses.zeros8.toList = List.replicate 8 (Value.int .u8 0) := rfl
  rw [hl, e, show 8 - xs.length + xs.length = 8 by omega]
  unfold Ses.eight
  simp only [nums, List.map_append, List.map_replicate, List.take_replicate, List.drop_replicate, Nat.sub_self, List.replicate_zero, List.append_nil]
  rw [show min (8 - xs.length) 8 = 8 - xs.length by omega]
theorem Ses.eight_cells (xs : List Int) (h : xs.length ≤ 8) (i : Nat) (hi : i < 8) (hb : ∀ x ∈ xs, 0 ≤ x ∧ x ≤ 255) : ((nums .u8 (Ses.eight xs)).toArray)[i]? = some (.int .u8 ((((Ses.eight xs).map fun y => UInt8.ofNat y.toNat).getD i 0).toNat : Int)) := by
  have hlen : (Ses.eight xs).length = 8 := by unfold Ses.eight; rw [List.length_append, List.length_replicate]; omega
  have hby : ∀ y ∈ Ses.eight xs, 0 ≤ y ∧ y ≤ 255 := by
    intro y hy
    unfold Ses.eight at hy
    rcases List.mem_append.1 hy with hy | hy
    · rw [(List.mem_replicate.1 hy).2]; omega
    · exact hb y hy
  generalize Ses.eight xs = ys at hlen hby ⊢
  rw [List.getElem?_toArray]
  unfold nums
  rw [List.getElem?_map, List.getElem?_eq_getElem (by omega), List.getD_eq_getElem?_getD, List.getElem?_map, List.getElem?_eq_getElem (by omega)]
  have h1 := hby _ (List.getElem_mem (show i < ys.length by omega))
  simp only [Option.map_some, Option.getD_some]
  rw [UInt8.toNat_ofNat']
  congr 2
  omega
set_option maxHeartbeats 4000000 in
set_option maxRecDepth 100000 in
theorem getInt64_minus (w : World) (b g c : Nat) (l : List Int) (idx m : Nat) (big sb : Bool) (chunk x size : Int) (h : Ses.RS w b g c l idx big chunk) (hm0 : 0 < m) (hm8 : m ≤ 8) (hx : l.getD idx 0 = x) (e1 : Go.bits .and .i64 x 128 = 128) (e2 : Go.bits .and .i64 x 127 = m) (hlen : idx + 1 + m ≤ l.length) (hby : ∀ y ∈ l, 0 ≤ y ∧ y ≤ 255) :
    Calls Tryd.prog 73 #[.pointer (some ⟨b, 0, none⟩), .int .i64 size, .bool true, .bool sb] w fun e w' => e = .returned (.tuple #[.int .i64 (wrap64 (-wrap64 (Ses.beVal ((l.drop (idx + 1)).take m)))), .nilIface]) ∧ Ses.RS w' b g c l (idx + 1 + m) big chunk ∧ w.grownBy w' (some b) := by
  have hr := read_ok w b g c l idx 1 big chunk h (by omega) (by omega)
  rw [show ((1 : Nat) : Int) = 1 from rfl] at hr
  have HR1 := Lib.hid hr
  have HC := Lib.hid (fun W (hw : Ses.RS W b g c l (idx + 1) big chunk) => (hw.cells idx (by omega)).trans (by rw [hx]))
  have HR2f := Lib.hid (fun W (hw : Ses.RS W b g c l (idx + 1) big chunk) => read_ok W b g c l (idx + 1) m big chunk hw hlen hm0)
  obtain ⟨xs, hxs⟩ : ∃ xs, xs = (l.drop (idx + 1)).take m := ⟨_, rfl⟩
  rw [← hxs]
  have hxl : xs.length = m := by rw [hxs, List.length_take, List.length_drop]; omega
  have hxb : ∀ y ∈ xs, 0 ≤ y ∧ y ≤ 255 := fun y hy => hby y (by rw [hxs] at hy; exact List.mem_of_mem_drop (List.mem_of_mem_take hy))
  have hinfo : (Tryd.prog.info? 5).map (·.size) = some 1 := by kernel_rfl
  have HIn : Hid (∀ W : World, Ses.RS W b g c l (idx + 1 + m) big chunk → ∀ j v, (nums .u8 xs)[j]? = some v → W.cell? ((⟨g, idx + 1, none⟩ : Addr).add j) = some v) := Lib.hid (fun W hW j v hv => by
    unfold nums at hv
    rw [List.getElem?_map] at hv
    have hj : j < xs.length := by
      by_cases hj : j < xs.length
      · exact hj
      · rw [List.getElem?_eq_none (by omega)] at hv
        cases hv
    rw [Ses.drop_cells hW.cells (idx := idx + 1) j (by omega)]
    rw [List.getElem?_eq_getElem hj] at hv
    have e : (l.drop (idx + 1)).getD j 0 = xs[j] := by
      simp only [hxs, List.getElem_take]
      rw [List.getD_eq_getElem?_getD, List.getElem?_eq_getElem]
      rfl
    rw [e]
    exact hv)
  have HCp : Hid (∀ W : World, Ses.RS W b g c l (idx + 1 + m) big chunk → (Builtin.copy_ #[22, 22] 3 #[.slice (some ⟨W.heap.size, 8 - m, none⟩) m m, .slice (some ⟨g, idx + 1, none⟩) m (c - (idx + 1))]).run Tryd.prog (W.alloc (.cells Ses.zeros8 5)) = .ok (goInt m) ((W.alloc (.cells Ses.zeros8 5)).setRow W.heap.size (nums .u8 (Ses.eight xs)).toArray)) := Lib.hid (fun W hW => by
    have hln : (nums .u8 xs).length = m := (nums_length ..).trans hxl
    have hc := run_copy_row (P := Tryd.prog) (W.alloc (.cells Ses.zeros8 5)) 22 22 3 5 W.heap.size (8 - m) m m ⟨g, idx + 1, none⟩ m (c - (idx + 1)) Ses.zeros8 5 (nums .u8 xs) Tryd.underlying22 hinfo (xb_new _ _) (by rw [hln]; exact (Nat.min_self _).symm) (fun j v hj => cell_alloc _ (HIn.out W hW j v hj)) (by rw [hln]; show 8 - m + m ≤ 8; omega) (nums_one xs)
    have he := Ses.eight_row xs (by omega)
    rw [hxl] at he
    rw [he, hln] at hc
    exact hc)
  have HBE : Hid (∀ W : World, Calls Tryd.prog 83 #[.agg #[], .slice (some ⟨W.heap.size, 0, none⟩) 8 8] ((W.alloc (.cells Ses.zeros8 5)).setRow W.heap.size (nums .u8 (Ses.eight xs)).toArray) fun e w' => e = .returned (.int .u64 (Ses.beVal xs)) ∧ Below W.heap.size W w') := Lib.hid (fun W => by
    have hW3 : Below W.heap.size W ((W.alloc (.cells Ses.zeros8 5)).setRow W.heap.size (nums .u8 (Ses.eight xs)).toArray) := below_setRow (below_alloc (Below.refl _ _) _) (Nat.le_refl _) _
    obtain ⟨W3, hW⟩ : ∃ W3, W3 = (W.alloc (.cells Ses.zeros8 5)).setRow W.heap.size (nums .u8 (Ses.eight xs)).toArray := ⟨_, rfl⟩
    rw [← hW] at hW3 ⊢
    suffices key : Calls Tryd.prog 83 #[.agg #[], .slice (some ⟨W.heap.size, 0, none⟩) 8 8] W3 (fun e w' => e = .returned (.int .u64 (Ses.beVal xs)) ∧ Below W3.heap.size W3 w') from key.mono (fun e w' h => ⟨h.1, hW3.trans (h.2.mono hW3.size)⟩)
    have hrow : W3.heap[W.heap.size]? = some (.cells (nums .u8 (Ses.eight xs)).toArray 5 (0, 0)) := by rw [hW]; exact setRow_heap _ _ Ses.zeros8 _ _ _ (xb_new _ _)
    have hc : ∀ i, i < 8 → W3.cell? ⟨W.heap.size, 0 + i, none⟩ = some (.int .u8 ((((Ses.eight xs).map fun y => UInt8.ofNat y.toNat).getD i 0).toNat : Int)) := fun i hi => by
      rw [Nat.zero_add, xb_cell hrow]
      exact Ses.eight_cells xs (by omega) i hi hxb
    have hlen8 : ((Ses.eight xs).map fun y => UInt8.ofNat y.toNat).length = 8 := by rw [List.length_map]; unfold Ses.eight; rw [List.length_append, List.length_replicate]; omega
    have hbe := Tryd.binary_BE_Uint64 W.heap.size 0 8 8 _ _ _ _ _ _ _ _ W3 (Nat.le_refl _) (hc 0 (by omega)) (hc 1 (by omega)) (hc 2 (by omega)) (hc 3 (by omega)) (hc 4 (by omega)) (hc 5 (by omega)) (hc 6 (by omega)) (hc 7 (by omega))
    unfold Ses.beVal
    generalize ((Ses.eight xs).map fun y => UInt8.ofNat y.toNat) = bs at hlen8 hbe ⊢
    match bs, hlen8 with
    | [a0, a1, a2, a3, a4, a5, a6, a7], _ => exact hbe)
  have hmk := Ses.make8
  have hx0 : 0 ≤ x ∧ x ≤ 255 := by
    rw [← hx, List.getD_eq_getElem?_getD, List.getElem?_eq_getElem (by omega)]
    exact hby _ (List.getElem_mem _)
  have hx1 := hx0.1
  have hx2 := hx0.2
  have hxw : wrap64 x = x := by unfold wrap64; omega
  generalize Ses.beVal xs = V at *
  have k0 : (0 : Int) ≤ (8 : Int) - (m : Int) := by omega
  have k1 : (8 : Int) - (m : Int) ≤ 8 := by omega
  have k2 : ((8 : Int) - (m : Int)).toNat = 8 - m := by omega
  have k3 : IntKind.i64.wrap ((8 : Int) - (m : Int)) = (8 : Int) - (m : Int) := (IntKind.wrap_i64 _).trans (by omega)
  have k4 : ((m : Int) == 0) = false := beq_eq_false_iff_ne.2 (by omega)
  have k5 : (8 = 8 - m) = False := eq_false (by omega)
  have k6 : 8 - (8 - m) = m := by omega
  clear hr h hlen hx hxs hxb hby hx0
  go_enter Tryd.func73, Tryd.ntmps73
  go_wp2_with (first | (go_at_call 82; (with_reducible refine HR1.out.mono ?_); rintro e w1 ⟨rfl, hrs, hg⟩; have x0 := HC.out _ hrs; have HRS := Lib.hid hrs; have HG := Lib.hid hg; have HR2 := Lib.hid (HR2f.out _ hrs); clear hrs hg) | (go_at_call 82; (with_reducible refine HR2.out.mono ?_); rintro e w2 ⟨rfl, hrs, hg⟩; have HS2 := Lib.hid hrs; have HG2 := Lib.hid hg; have hcp := HCp.out _ hrs; clear hrs hg) | (go_at_call 83; (with_reducible refine (HBE.out _).mono ?_); rintro e w4 ⟨rfl, hb4⟩; have HB4 := Lib.hid hb4; clear hb4))
  go_ret2
  exact ⟨rfl, HS2.out.bl HB4.out, grown_bl (grown_trans HG.out HG2.out) HB4.out⟩
set_option maxHeartbeats 2000000 in
set_option maxRecDepth 100000 in
/-- The number that has no byte: 0, with the sign. -/
theorem getInt64_none (w : World) (b g c : Nat) (l : List Int) (idx : Nat) (big sb : Bool) (chunk size : Int) (h : Ses.RS w b g c l idx big chunk) (hx : l.getD idx 0 = 128) (hlen : idx + 1 ≤ l.length) :
    Calls Tryd.prog 73 #[.pointer (some ⟨b, 0, none⟩), .int .i64 size, .bool true, .bool sb] w fun e w' => e = .returned (.tuple #[.int .i64 0, .nilIface]) ∧ Ses.RS w' b g c l (idx + 1) big chunk ∧ w.grownBy w' (some b) := by
  have hr := read_ok w b g c l idx 1 big chunk h (by omega) (by omega)
  rw [show ((1 : Nat) : Int) = 1 from rfl] at hr
  have HR1 := Lib.hid hr
  have HC := Lib.hid (fun W (hw : Ses.RS W b g c l (idx + 1) big chunk) => (hw.cells idx (by omega)).trans (by rw [hx]))
  have e1 : Go.bits .and .i64 128 128 = 128 := by decide +kernel
  have e2 : Go.bits .and .i64 128 127 = 0 := by decide +kernel
  clear hr h hlen hx
  go_enter Tryd.func73, Tryd.ntmps73
  go_wp2_with (go_at_call 82; (with_reducible refine HR1.out.mono ?_); rintro e w1 ⟨rfl, hrs, hg⟩; have x0 := HC.out _ hrs; have HRS := Lib.hid hrs; have HG := Lib.hid hg; clear hrs hg)
  go_ret2
  exact ⟨rfl, HRS.out, HG.out⟩
end Go.Proofs.YtdnahdddkagfhaaDoor.X
