/- A short CLR is read: the buffer that holds it. -/
import Derived.Test.YtdnahdddkagfhaaDoorGo
namespace Go.Proofs.YtdnahdddkagfhaaDoor.X
open Go.RowKit Go.Proofs.YtdnahdddkagfhaaDoorW.PrintWords Go.Proofs.YtdnahdddkagfhaaDoorW.PrintMore
attribute [local go_sem] setCell_drewN alloc_drewN
set_option linter.unusedVariables false
set_option linter.unusedSimpArgs false
theorem grown_blB {a w w' : World} {row : Option Nat} {B : Nat} (h : a.grownBy w row) (k : Below B w w') (hB : a.heap.size ≤ B) : a.grownBy w' row :=
  ⟨k.os.trans h.os, k.tape.trans h.tape, k.output.trans h.output, Nat.le_trans h.size k.size, fun i hi hr => (k.block i (by omega)).trans (h.block i hi hr)⟩
theorem Ses.RS.blB {w w' : World} {b g c B : Nat} {l : List Int} {idx : Nat} {big : Bool} {chunk : Int} (h : Ses.RS w b g c l idx big chunk) (k : Below B w w') (hb : b < B) (hg : g < B) : Ses.RS w' b g c l idx big chunk :=
  ⟨blk_bl h.blk k hb, h.ne, h.cap, fun i hi => (k.cell (p := ⟨g, i, none⟩) hg).trans (h.cells i hi), h.max, Nat.lt_of_lt_of_le h.lt k.size⟩
set_option maxHeartbeats 1000000 in
set_option maxRecDepth 100000 in
/-- (*bytes.Buffer).Bytes of a buffer that has only been written. -/
theorem bytes_ok (T : TypeId) (R : Nat → Option Value) (B b q : Nat) (xs : List Int) (w : World) (h : LibA.IsBuffer T R 5 B b q (xs.map (Value.int .u8)) w) (hx : 0 < xs.length) :
    Calls Tryd.prog 46 #[.pointer (some ⟨b, q, none⟩)] w fun e w' => ∃ g c, e = .returned (.slice (some ⟨g, 0, none⟩) xs.length c) ∧ B ≤ g ∧ g ≠ b ∧ xs.length ≤ c ∧ (∀ i : Nat, i < xs.length → w.cell? ⟨g, i, none⟩ = some (.int .u8 (xs.getD i 0))) ∧ w' = w.drew := by
  obtain ⟨hB, v, lr, hbk, ⟨hlen, hv⟩, hne⟩ := h
  rw [List.length_map] at hv
  rcases hv with ⟨_, hv⟩ | ⟨g, cap, cur, rfl, hBg, hg, hnc, hcm, hcs, htk⟩
  · omega
  have c0 := hbk.c0
  have c1 := hbk.c1
  have hcells : ∀ i : Nat, i < xs.length → w.cell? ⟨g, i, none⟩ = some (.int .u8 (xs.getD i 0)) := fun i hi => by
    rw [xb_cell hg]
    rw [Nat.mul_one] at htk
    have e2 : (xs.map (Value.int .u8))[i]? = some (.int .u8 (xs.getD i 0)) := by
      rw [List.getElem?_map, List.getElem?_eq_getElem hi, List.getD_eq_getElem?_getD, List.getElem?_eq_getElem hi]
      rfl
    rw [← Array.getElem?_toList, ← e2, ← htk, List.getElem?_take, if_pos hi]
  have HCe := Lib.hid hcells
  have hgb : g ≠ b := fun e => hne (by rw [e]; rfl)
  have HNe := Lib.hid hgb
  clear hbk hlen hne hg hcm hcs htk hcells hgb
  generalize hn : xs.length = n at *
  have p2 : (0 : Int) ≤ (n : Int) := by omega
  have p8 : (n : Int) ≤ (cap : Int) := by omega
  have q0 : (cap = 0) = False := eq_false (by omega)
  go_enter Tryd.func46, Tryd.ntmps46
  go_wp2
  go_region_held3 (fun w' => w'.cell? ⟨b, q, none⟩ = some (.slice (some ⟨g, 0, none⟩) n cap) ∧ w'.cell? ⟨b, q + 1, none⟩ = some (.int .i64 0)) (first | exact ⟨c0, c1⟩) (first | fail)
  go_wp2
  go_ret
  exact ⟨g, cap, rfl, hBg, HNe.out, hnc, HCe.out, rfl⟩
set_option maxHeartbeats 2000000 in
set_option maxRecDepth 100000 in
/-- A CLR of 1 to 252 bytes. -/
theorem getClr_short (w : World) (b g c : Nat) (l : List Int) (idx k : Nat) (big : Bool) (chunk : Int) (h : Ses.RS w b g c l idx big chunk) (hk0 : 0 < k) (hk1 : k ≤ 252) (hx : l.getD idx 0 = (k : Int)) (hk : idx + 1 + k ≤ l.length) (hbl : b < w.heap.size) :
    Calls Tryd.prog 70 #[.pointer (some ⟨b, 0, none⟩)] w fun e w' => ∃ gd cd, e = .returned (.tuple #[.slice (some ⟨gd, 0, none⟩) k cd, .nilIface]) ∧ w.heap.size ≤ gd ∧ gd < w'.heap.size ∧ k ≤ cd ∧ (∀ i : Nat, i < k → w'.cell? ⟨gd, i, none⟩ = some (.int .u8 (((l.drop (idx + 1)).take k).getD i 0))) ∧ Ses.RS w' b g c l (idx + 1 + k) big chunk ∧ w.grownBy w' (some b) := by
  have hgb := getByte_ok w b g c l idx big chunk h (by omega)
  rw [hx] at hgb
  have HR := Lib.hid hgb
  have HY := Lib.hid (fun W (hw : Ses.RS W b g c l (idx + 1) big chunk) => getBytes_ok W b g c l (idx + 1) k big chunk hw hk hk0)
  have hlk : ((l.drop (idx + 1)).take k).length = k := by rw [List.length_take, List.length_drop]; omega
  clear hgb hx
  have d0 : ((k : Int) == 0) = false := beq_eq_false_iff_ne.2 (by omega)
  have d1 : ((k : Int) == 255) = false := beq_eq_false_iff_ne.2 (by omega)
  have d2 : ((k : Int) == 253) = false := beq_eq_false_iff_ne.2 (by omega)
  have d3 : ((k : Int) == 254) = false := beq_eq_false_iff_ne.2 (by omega)
  obtain ⟨xs, hxs⟩ : ∃ xs, xs = (l.drop (idx + 1)).take k := ⟨_, rfl⟩
  rw [← hxs] at hlk ⊢
  have HXs := Lib.hid hxs
  have HLk := Lib.hid hlk
  have hg0 := h.lt
  have HIn : Hid (∀ W : World, Ses.RS W b g c l (idx + 1 + k) big chunk → ∀ j v, (xs.map (Value.int .u8))[j]? = some v → W.cell? ((⟨g, idx + 1, none⟩ : Addr).add j) = some v) := Lib.hid (fun W hW j v hv => by
    rw [List.getElem?_map] at hv
    have hj : j < xs.length := by
      by_cases hj : j < xs.length
      · exact hj
      · rw [List.getElem?_eq_none (by omega)] at hv
        cases hv
    have hd := Ses.drop_cells hW.cells (idx := idx + 1) j (by omega)
    rw [hd]
    rw [List.getElem?_eq_getElem hj] at hv
    have e : (l.drop (idx + 1)).getD j 0 = xs[j] := by
      simp only [hxs, List.getElem_take]
      rw [List.getD_eq_getElem?_getD, List.getElem?_eq_getElem]
      rfl
    rw [e]
    exact hv)
  have hone : ∀ v ∈ xs.map (Value.int .u8), v.oneCell' = true := fun v hv => by
    obtain ⟨x, _, rfl⟩ := List.mem_map.1 hv
    rfl
  have HOne := Lib.hid hone
  clear h hone hxs hlk
  go_enter Tryd.func70, Tryd.ntmps70
  go_wp2_with (first | (go_at_call 68; (with_reducible refine HR.out.mono ?_); rintro e w1 ⟨rfl, hrs, hg⟩; have HRS := Lib.hid hrs; have HG := Lib.hid hg; clear hrs hg) | (go_at_call 69; (with_reducible refine (HY.out _ ?hrs).mono ?_); (case hrs => exact HRS.out.bl (below_alloc (Below.refl _ _) _)); rintro e w2 ⟨rfl, hrs, hg⟩; have HRS2 := Lib.hid hrs; have HG2 := Lib.hid hg; clear hrs hg) | (go_at_call 58; (have hz1 := HG.out.size); (have hz2 := HG2.out.size); (have hbf := (HG2.out.block w1.heap.size (by rw [World.size_alloc]; exact Nat.lt_succ_self _) (fun e => by have := Option.some.inj e; omega)).trans (xb_new _ _)); (have hbuf := LibA.zero_isBuffer (e := 5) (Nat.le_refl w1.heap.size) (LibA.three_whole hbf)); (rw [World.size_alloc] at hz2); (have hwr := Tryd.Buffer_Write_at 80 (fun _ => none) w1.heap.size w1.heap.size 0 [] (xs.map (Value.int .u8)) ⟨g, idx + 1, none⟩ k (c - (idx + 1)) w2 hbuf (by omega) (by simp) (by rw [List.length_map]; exact HLk.out) (by show g ≠ _; omega) (HIn.out _ HRS2.out) HOne.out (by simp only [List.length_nil]; omega)); (with_reducible refine hwr.mono ?_); rintro e w3 ⟨rfl, hbuf3, hb3, -⟩; (rw [List.nil_append] at hbuf3); have HBuf := Lib.hid hbuf3; have HB3 := Lib.hid hb3; clear hwr hbuf hbf hbuf3 hb3) | (go_at_call 46; (with_reducible refine (bytes_ok 80 (fun _ => none) w1.heap.size w1.heap.size 0 xs w3 HBuf.out (by rw [HLk.out]; exact hk0)).mono ?_); rintro e w4 ⟨gd, cd, rfl, hgd, hgn, hcd, hcl, rfl⟩))
  go_ret2
  have hz := HG.out.size
  have hgd2 := World.block_lt_of_cell? w3 _ (hcl 0 (by rw [HLk.out]; exact hk0))
  exact ⟨gd, cd, congrArg (fun m => Ending.returned (.tuple #[.slice (some ⟨gd, 0, none⟩) m cd, .nilIface])) HLk.out, by omega, hgd2, by rw [← HLk.out]; exact hcd, fun i hi => hcl i (by rw [HLk.out]; exact hi), (HRS2.out.blB HB3.out (by omega) (by omega)).bl (below_drew (Below.refl _ _)), (grown_blB (grown_trans (grown_alloc HG.out _) HG2.out) HB3.out hz).drew⟩
end Go.Proofs.YtdnahdddkagfhaaDoor.X
