/- Numbers of a size are read, with either end ahead: GetInt64 without compression. -/
import Derived.Test.YtdnahdddkagfhaaDoorGi
namespace Go.Proofs.YtdnahdddkagfhaaDoor.X
open Go.RowKit Go.Proofs.YtdnahdddkagfhaaDoorW.PrintWords Go.Proofs.YtdnahdddkagfhaaDoorW.PrintLast Go.Proofs.YtdnahdddkagfhaaDoorW.PrintMore
attribute [local go_sem] setCell_drewN alloc_drewN
set_option linter.unusedVariables false
set_option linter.unusedSimpArgs false
def Ses.eightL (xs : List Int) : List Int := xs ++ List.replicate (8 - xs.length) 0
def Ses.leVal (xs : List Int) : Int := (Lib.leNat ((Ses.eightL xs).map fun y => UInt8.ofNat y.toNat) : Int)
theorem Ses.eightL_row (xs : List Int) (h : xs.length ≤ 8) : (Ses.zeros8.toList.take 0 ++ nums .u8 xs ++ Ses.zeros8.toList.drop (0 + (nums .u8 xs).length)).toArray = (nums .u8 (Ses.eightL xs)).toArray := by
  have hl : (nums .u8 xs).length = xs.length := nums_length ..
  have e : Ses.zeros8.toList = List.replicate 8 (Value.int .u8 0) := rfl
  rw [hl, e, Nat.zero_add]
  unfold Ses.eightL
  simp only [nums, List.map_append, List.map_replicate, List.take_zero, List.nil_append, List.drop_replicate]
theorem Ses.eightL_cells (xs : List Int) (h : xs.length ≤ 8) (i : Nat) (hi : i < 8) (hb : ∀ x ∈ xs, 0 ≤ x ∧ x ≤ 255) : ((nums .u8 (Ses.eightL xs)).toArray)[i]? = some (.int .u8 ((((Ses.eightL xs).map fun y => UInt8.ofNat y.toNat).getD i 0).toNat : Int)) := by
  have hlen : (Ses.eightL xs).length = 8 := by unfold Ses.eightL; rw [List.length_append, List.length_replicate]; omega
  have hby : ∀ y ∈ Ses.eightL xs, 0 ≤ y ∧ y ≤ 255 := by
    intro y hy
    unfold Ses.eightL at hy
    rcases List.mem_append.1 hy with hy | hy
    · exact hb y hy
    · rw [(List.mem_replicate.1 hy).2]; omega
  generalize Ses.eightL xs = ys at hlen hby ⊢
  rw [List.getElem?_toArray]
  unfold nums
  rw [List.getElem?_map, List.getElem?_eq_getElem (by omega), List.getD_eq_getElem?_getD, List.getElem?_map, List.getElem?_eq_getElem (by omega)]
  have h1 := hby _ (List.getElem_mem (show i < ys.length by omega))
  simp only [Option.map_some, Option.getD_some]
  rw [UInt8.toNat_ofNat']
  congr 2
  omega
set_option maxHeartbeats 4000000 in
set_option maxRecDepth 100000 in
theorem getInt64_be (w : World) (b g c : Nat) (l : List Int) (idx m : Nat) (big : Bool) (chunk : Int) (h : Ses.RS w b g c l idx big chunk) (hm0 : 0 < m) (hm8 : m ≤ 8) (hlen : idx + m ≤ l.length) (hby : ∀ y ∈ l, 0 ≤ y ∧ y ≤ 255) :
    Calls Tryd.prog 73 #[.pointer (some ⟨b, 0, none⟩), .int .i64 m, .bool false, .bool true] w fun e w' => e = .returned (.tuple #[.int .i64 (wrap64 (Ses.beVal ((l.drop idx).take m))), .nilIface]) ∧ Ses.RS w' b g c l (idx + m) big chunk ∧ w.grownBy w' (some b) := by
  have HR2 := Lib.hid (read_ok w b g c l idx m big chunk h hlen hm0)
  obtain ⟨xs, hxs⟩ : ∃ xs, xs = (l.drop idx).take m := ⟨_, rfl⟩
  rw [← hxs]
  have hxl : xs.length = m := by rw [hxs, List.length_take, List.length_drop]; omega
  have hxb : ∀ y ∈ xs, 0 ≤ y ∧ y ≤ 255 := fun y hy => hby y (by rw [hxs] at hy; exact List.mem_of_mem_drop (List.mem_of_mem_take hy))
  have hinfo : (Tryd.prog.info? 5).map (·.size) = some 1 := by kernel_rfl
  have HIn : Hid (∀ W : World, Ses.RS W b g c l (idx + m) big chunk → ∀ j v, (nums .u8 xs)[j]? = some v → W.cell? ((⟨g, idx, none⟩ : Addr).add j) = some v) := Lib.hid (fun W hW j v hv => by
    unfold nums at hv
    rw [List.getElem?_map] at hv
    have hj : j < xs.length := by
      by_cases hj : j < xs.length
      · exact hj
      · rw [List.getElem?_eq_none (by omega)] at hv
        cases hv
    rw [Ses.drop_cells hW.cells (idx := idx) j (by omega)]
    rw [List.getElem?_eq_getElem hj] at hv
    have e : (l.drop idx).getD j 0 = xs[j] := by
      simp only [hxs, List.getElem_take]
      rw [List.getD_eq_getElem?_getD, List.getElem?_eq_getElem]
      rfl
    rw [e]
    exact hv)
  have HCp : Hid (∀ W : World, Ses.RS W b g c l (idx + m) big chunk → (Builtin.copy_ #[22, 22] 3 #[.slice (some ⟨W.heap.size, 8 - m, none⟩) m m, .slice (some ⟨g, idx, none⟩) m (c - idx)]).run Tryd.prog (W.alloc (.cells Ses.zeros8 5)) = .ok (goInt m) ((W.alloc (.cells Ses.zeros8 5)).setRow W.heap.size (nums .u8 (Ses.eight xs)).toArray)) := Lib.hid (fun W hW => by
    have hln : (nums .u8 xs).length = m := (nums_length ..).trans hxl
    have hc := run_copy_row (P := Tryd.prog) (W.alloc (.cells Ses.zeros8 5)) 22 22 3 5 W.heap.size (8 - m) m m ⟨g, idx, none⟩ m (c - idx) Ses.zeros8 5 (nums .u8 xs) Tryd.underlying22 hinfo (xb_new _ _) (by rw [hln]; exact (Nat.min_self _).symm) (fun j v hj => cell_alloc _ (HIn.out W hW j v hj)) (by rw [hln]; show 8 - m + m ≤ 8; omega) (nums_one xs)
    have he := Ses.eight_row xs (by omega)
    rw [hxl] at he
    rw [he, hln] at hc
    exact hc)
  have HBE : Hid (∀ W : World, Calls Tryd.prog 83 #[.agg #[], .slice (some ⟨W.heap.size, 0, none⟩) 8 8] ((W.alloc (.cells Ses.zeros8 5)).setRow W.heap.size (nums .u8 (Ses.eight xs)).toArray) fun e w' => e = .returned (.int .u64 (Ses.beVal xs)) ∧ Below W.heap.size W w') := Lib.hid (fun W => by
    have hW3 : Below W.heap.size W ((W.alloc (.cells Ses.zeros8 5)).setRow W.heap.size (nums .u8 (Ses.eight xs)).toArray) := below_setRow (below_alloc (Below.refl _ _) _) (Nat.le_refl _) _
    obtain ⟨W3, hW⟩ : ∃ W3, W3 = (W.alloc (.cells Ses.zeros8 5)).setRow W.heap.size (nums .u8 (Ses.eight xs)).toArray := ⟨_, rfl⟩
    rw [← hW] at hW3 ⊢
    suffices key : Calls Tryd.prog 83 #[.agg #[], .slice (some ⟨W.heap.size, 0, none⟩) 8 8] W3 (fun e w' => e = .returned (.int .u64 (Ses.beVal xs)) ∧ Below W3.heap.size W3 w') from key.mono (fun e w' h => ⟨h.1, hW3.trans (h.2.mono hW3.size)⟩)
    have hrow : W3.heap[W.heap.size]? = some (.cells (nums .u8 (Ses.eight xs)).toArray 5 (0, 0)) := by rw [hW]; exact setRow_heap _ _ Ses.zeros8 _ _ _ (xb_new _ _)
    have hc : ∀ i, i < 8 → W3.cell? ⟨W.heap.size, 0 + i, none⟩ = some (.int .u8 ((((Ses.eight xs).map fun y => UInt8.ofNat y.toNat).getD i 0).toNat : Int)) := fun i hi => by
      rw [Nat.zero_add, xb_cell hrow]
      exact Ses.eight_cells xs (by omega) i hi hxb
    have hlen8 : ((Ses.eight xs).map fun y => UInt8.ofNat y.toNat).length = 8 := by rw [List.length_map]; unfold Ses.eight; rw [List.length_append, List.length_replicate]; omega
    have hbe := Tryd.binary_BE_Uint64 W.heap.size 0 8 8 _ _ _ _ _ _ _ _ W3 (Nat.le_refl _) (hc 0 (by omega)) (hc 1 (by omega)) (hc 2 (by omega)) (hc 3 (by omega)) (hc 4 (by omega)) (hc 5 (by omega)) (hc 6 (by omega)) (hc 7 (by omega))
    unfold Ses.beVal
    generalize ((Ses.eight xs).map fun y => UInt8.ofNat y.toNat) = bs at hlen8 hbe ⊢
    match bs, hlen8 with
    | [a0, a1, a2, a3, a4, a5, a6, a7], _ => exact hbe)
  have hmk := Ses.make8
  generalize Ses.beVal xs = V at *
  have k0 : (0 : Int) ≤ (8 : Int) - (m : Int) := by omega
  have k1 : (8 : Int) - (m : Int) ≤ 8 := by omega
  have k2 : ((8 : Int) - (m : Int)).toNat = 8 - m := by omega
  have k3 : IntKind.i64.wrap ((8 : Int) - (m : Int)) = (8 : Int) - (m : Int) := (IntKind.wrap_i64 _).trans (by omega)
  have k4 : ((m : Int) == 0) = false := beq_eq_false_iff_ne.2 (by omega)
  have k5 : (8 = 8 - m) = False := eq_false (by omega)
  have k6 : 8 - (8 - m) = m := by omega
  have k7 : (0 : Int) ≤ (m : Int) := by omega
  have k8 : (m : Int) ≤ 8 := by omega
  clear h hlen hxs hxb hby
  go_enter Tryd.func73, Tryd.ntmps73
  go_wp2_with (first | (go_at_call 82; (with_reducible refine HR2.out.mono ?_); rintro e w2 ⟨rfl, hrs, hg⟩; have HS2 := Lib.hid hrs; have HG2 := Lib.hid hg; have hcp := HCp.out _ hrs; clear hrs hg) | (go_at_call 83; (with_reducible refine (HBE.out _).mono ?_); rintro e w4 ⟨rfl, hb4⟩; have HB4 := Lib.hid hb4; clear hb4))
  go_ret2
  exact ⟨rfl, HS2.out.bl HB4.out, grown_bl HG2.out HB4.out⟩
set_option maxHeartbeats 4000000 in
set_option maxRecDepth 100000 in
theorem getInt64_le (w : World) (b g c : Nat) (l : List Int) (idx m : Nat) (big : Bool) (chunk : Int) (h : Ses.RS w b g c l idx big chunk) (hm0 : 0 < m) (hm8 : m ≤ 8) (hlen : idx + m ≤ l.length) (hby : ∀ y ∈ l, 0 ≤ y ∧ y ≤ 255) :
    Calls Tryd.prog 73 #[.pointer (some ⟨b, 0, none⟩), .int .i64 m, .bool false, .bool false] w fun e w' => e = .returned (.tuple #[.int .i64 (wrap64 (Ses.leVal ((l.drop idx).take m))), .nilIface]) ∧ Ses.RS w' b g c l (idx + m) big chunk ∧ w.grownBy w' (some b) := by
  have HR2 := Lib.hid (read_ok w b g c l idx m big chunk h hlen hm0)
  obtain ⟨xs, hxs⟩ : ∃ xs, xs = (l.drop idx).take m := ⟨_, rfl⟩
  rw [← hxs]
  have hxl : xs.length = m := by rw [hxs, List.length_take, List.length_drop]; omega
  have hxb : ∀ y ∈ xs, 0 ≤ y ∧ y ≤ 255 := fun y hy => hby y (by rw [hxs] at hy; exact List.mem_of_mem_drop (List.mem_of_mem_take hy))
  have hinfo : (Tryd.prog.info? 5).map (·.size) = some 1 := by kernel_rfl
  have HIn : Hid (∀ W : World, Ses.RS W b g c l (idx + m) big chunk → ∀ j v, (nums .u8 xs)[j]? = some v → W.cell? ((⟨g, idx, none⟩ : Addr).add j) = some v) := Lib.hid (fun W hW j v hv => by
    unfold nums at hv
    rw [List.getElem?_map] at hv
    have hj : j < xs.length := by
      by_cases hj : j < xs.length
      · exact hj
      · rw [List.getElem?_eq_none (by omega)] at hv
        cases hv
    rw [Ses.drop_cells hW.cells (idx := idx) j (by omega)]
    rw [List.getElem?_eq_getElem hj] at hv
    have e : (l.drop idx).getD j 0 = xs[j] := by
      simp only [hxs, List.getElem_take]
      rw [List.getD_eq_getElem?_getD, List.getElem?_eq_getElem]
      rfl
    rw [e]
    exact hv)
  have HCp : Hid (∀ W : World, Ses.RS W b g c l (idx + m) big chunk → (Builtin.copy_ #[22, 22] 3 #[.slice (some ⟨W.heap.size, 0, none⟩) m 8, .slice (some ⟨g, idx, none⟩) m (c - idx)]).run Tryd.prog (W.alloc (.cells Ses.zeros8 5)) = .ok (goInt m) ((W.alloc (.cells Ses.zeros8 5)).setRow W.heap.size (nums .u8 (Ses.eightL xs)).toArray)) := Lib.hid (fun W hW => by
    have hln : (nums .u8 xs).length = m := (nums_length ..).trans hxl
    have hc := run_copy_row (P := Tryd.prog) (W.alloc (.cells Ses.zeros8 5)) 22 22 3 5 W.heap.size 0 m 8 ⟨g, idx, none⟩ m (c - idx) Ses.zeros8 5 (nums .u8 xs) Tryd.underlying22 hinfo (xb_new _ _) (by rw [hln]; exact (Nat.min_self _).symm) (fun j v hj => cell_alloc _ (HIn.out W hW j v hj)) (by rw [hln]; show 0 + m ≤ 8; omega) (nums_one xs)
    have he := Ses.eightL_row xs (by omega)
    rw [he, hln] at hc
    exact hc)
  have HBE : Hid (∀ W : World, Calls Tryd.prog 84 #[.agg #[], .slice (some ⟨W.heap.size, 0, none⟩) 8 8] ((W.alloc (.cells Ses.zeros8 5)).setRow W.heap.size (nums .u8 (Ses.eightL xs)).toArray) fun e w' => e = .returned (.int .u64 (Ses.leVal xs)) ∧ Below W.heap.size W w') := Lib.hid (fun W => by
    have hW3 : Below W.heap.size W ((W.alloc (.cells Ses.zeros8 5)).setRow W.heap.size (nums .u8 (Ses.eightL xs)).toArray) := below_setRow (below_alloc (Below.refl _ _) _) (Nat.le_refl _) _
    obtain ⟨W3, hW⟩ : ∃ W3, W3 = (W.alloc (.cells Ses.zeros8 5)).setRow W.heap.size (nums .u8 (Ses.eightL xs)).toArray := ⟨_, rfl⟩
    rw [← hW] at hW3 ⊢
    suffices key : Calls Tryd.prog 84 #[.agg #[], .slice (some ⟨W.heap.size, 0, none⟩) 8 8] W3 (fun e w' => e = .returned (.int .u64 (Ses.leVal xs)) ∧ Below W3.heap.size W3 w') from key.mono (fun e w' h => ⟨h.1, hW3.trans (h.2.mono hW3.size)⟩)
    have hrow : W3.heap[W.heap.size]? = some (.cells (nums .u8 (Ses.eightL xs)).toArray 5 (0, 0)) := by rw [hW]; exact setRow_heap _ _ Ses.zeros8 _ _ _ (xb_new _ _)
    have hc : ∀ i, i < 8 → W3.cell? ⟨W.heap.size, 0 + i, none⟩ = some (.int .u8 ((((Ses.eightL xs).map fun y => UInt8.ofNat y.toNat).getD i 0).toNat : Int)) := fun i hi => by
      rw [Nat.zero_add, xb_cell hrow]
      exact Ses.eightL_cells xs (by omega) i hi hxb
    have hlen8 : ((Ses.eightL xs).map fun y => UInt8.ofNat y.toNat).length = 8 := by rw [List.length_map]; unfold Ses.eightL; rw [List.length_append, List.length_replicate]; omega
    have hbe := Tryd.binary_LE_Uint64 W.heap.size 0 8 8 _ _ _ _ _ _ _ _ W3 (Nat.le_refl _) (hc 0 (by omega)) (hc 1 (by omega)) (hc 2 (by omega)) (hc 3 (by omega)) (hc 4 (by omega)) (hc 5 (by omega)) (hc 6 (by omega)) (hc 7 (by omega))
    unfold Ses.leVal
    generalize ((Ses.eightL xs).map fun y => UInt8.ofNat y.toNat) = bs at hlen8 hbe ⊢
    match bs, hlen8 with
    | [a0, a1, a2, a3, a4, a5, a6, a7], _ => exact hbe)
  have hmk := Ses.make8
  generalize Ses.leVal xs = V at *
  have k0 : (0 : Int) ≤ (8 : Int) - (m : Int) := by omega
  have k1 : (8 : Int) - (m : Int) ≤ 8 := by omega
  have k2 : ((8 : Int) - (m : Int)).toNat = 8 - m := by omega
  have k3 : IntKind.i64.wrap ((8 : Int) - (m : Int)) = (8 : Int) - (m : Int) := (IntKind.wrap_i64 _).trans (by omega)
  have k4 : ((m : Int) == 0) = false := beq_eq_false_iff_ne.2 (by omega)
  have k5 : (8 = 8 - m) = False := eq_false (by omega)
  have k6 : 8 - (8 - m) = m := by omega
  have k7 : (0 : Int) ≤ (m : Int) := by omega
  have k8 : (m : Int) ≤ 8 := by omega
  clear h hlen hxs hxb hby
  go_enter Tryd.func73, Tryd.ntmps73
  go_wp2_with (first | (go_at_call 82; (with_reducible refine HR2.out.mono ?_); rintro e w2 ⟨rfl, hrs, hg⟩; have HS2 := Lib.hid hrs; have HG2 := Lib.hid hg; have hcp := HCp.out _ hrs; clear hrs hg) | (go_at_call 84; (with_reducible refine (HBE.out _).mono ?_); rintro e w4 ⟨rfl, hb4⟩; have HB4 := Lib.hid hb4; clear hb4))
  go_ret2
  exact ⟨rfl, HS2.out.bl HB4.out, grown_bl HG2.out HB4.out⟩
end Go.Proofs.YtdnahdddkagfhaaDoor.X
