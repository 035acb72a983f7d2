-- Written by a program of this session (wip/xprint.py), which calls the kit's print.
import Derived.Test.YtpacjdlgnoiheaaDoorZV0
import Derived.Test.YtpacjdlgnoiheaaDoorPv
import Derived.Test.YtpacjdlgnoiheaaDoorPn
import Derived.Test.YtpacjdlgnoiheaaDoorPw
import Derived.Test.YtpacjdlgnoiheaaDoorPs
namespace Go.Proofs.YtpacjdlgnoiheaaDoor.ZV
open Go.RowKit Go.Proofs.YtpacjdlgnoiheaaDoor.X Go.Proofs.YtpacjdlgnoiheaaDoorW.PrintWords Go.Proofs.YtpacjdlgnoiheaaDoorW.PrintLast Go.Proofs.YtpacjdlgnoiheaaDoorW.PrintMore
attribute [local go_sem] max2_int min2_int max_two min_two max_three min_three max_four min_four   -- for this text's walks alone
set_option linter.unusedVariables false
set_option linter.unusedSimpArgs false

-- GIVEN: function 9 (laws_packetAwake)

-- GIVEN: function 12 (bytes_Clone)

-- GIVEN: function 15 (bytes_Equal)

-- GIVEN: function 14 (spec_PacketGet)

/-! ### spec_PacketHeadOf: function 16 -/
def spec_PacketHeadOf.f (k : Nat) (a0 : Bool) (l1 : List Int) (a2 : Int) : Option (Int × Int × Int × Int) := if a0 = true then ((spec_PacketGet.f k l1 0 4).bind fun t102 => (if 4 < (l1.length : Int) then (if 5 < (l1.length : Int) then (some ((t102) % 4294967296, rd l1 4, rd l1 5, a2)) else (none)) else (none))) else ((spec_PacketGet.f k l1 0 2).bind fun t105 => (if 4 < (l1.length : Int) then (if 5 < (l1.length : Int) then (some ((t105) % 4294967296, rd l1 4, rd l1 5, a2)) else (none)) else (none)))
theorem spec_PacketHeadOf.mono : ∀ a0 a1 a2 k, LeO (spec_PacketHeadOf.f k a0 a1 a2) (spec_PacketHeadOf.f (k + 1) a0 a1 a2) := by
  intro a0 a1 a2 k
  unfold spec_PacketHeadOf.f
  repeat' first
      | (with_reducible exact spec_PacketGet.mono _ _ _ _)
      | (with_reducible exact LeO.refl _)
      | (with_reducible exact LeO.none _)
      | (with_reducible refine LeO.ite ?_ ?_)
      | (with_reducible refine LeO.bind ?_ (fun _ => ?_))
      | exact spec_PacketGet.mono _ _ _ _
      | exact LeO.none _
      | refine LeO.ite ?_ ?_
      | refine LeO.bind ?_ (fun _ => ?_)
def spec_PacketHeadOf.T4 : Bool × List (List Nat × List Nat) := (true, [([], []), ([], []), ([0, 1], [0, 1]), ([2], [2]), ([], []), ([4], [4]), ([5], [5]), ([], []), ([7], [7]), ([8], [8]), ([], []), ([3, 6, 9, 10], [3, 6, 9, 10]), ([11, 2, 0, 1, 2, 3, 4, 5, 6, 7, 8, 9, 10, 11], [11])])
def spec_PacketHeadOf.B4 : List Nat := [0, 0, 3, 7, 0, 16, 48, 0, 128, 384, 0, 2047, 4095]
theorem spec_PacketHeadOf.tab4 : rtab .any (opsOf Tryd.f16 4) = spec_PacketHeadOf.T4 := by kernel_rfl
theorem spec_PacketHeadOf.bits4 : waitsOk spec_PacketHeadOf.T4.2 spec_PacketHeadOf.B4 = true := by kernel_rfl
set_option maxHeartbeats 8000000 in
set_option maxRecDepth 100000 in
theorem spec_PacketHeadOf.calls (k : Nat) (a0 : Bool) (A1 : Option Addr) (c1 : Nat) (l1 : List Int) (a2 : Int) (r1 : Int) (r2 : Int) (r3 : Int) (r4 : Int) (w : World) (hr1 : Kd.C (Kd.int .u8) w A1 l1.length l1) (hc1 : l1.length ≤ c1) (h : spec_PacketHeadOf.f k a0 l1 a2 = some (r1, r2, r3, r4)) :
    Calls Tryd.prog 16 #[.bool a0, .slice A1 l1.length c1, .int .u16 a2] w fun e w' => e = .returned (.agg #[.int .u32 r1, .int .u8 r2, .int .u8 r3, .int .u16 r4]) ∧ Below w.heap.size w w' := by
  have hu28 := Tryd.underlying28
  have HR1 := Aside0.mk hr1
  have HC1 := Aside0.mk hc1
  clear hr1 hc1
  have HB := Aside0.mk (Below.refl w.heap.size w)
  have H : (if a0 = true then ((spec_PacketGet.f k l1 0 4).bind fun t102 => (if 4 < (l1.length : Int) then (if 5 < (l1.length : Int) then (some ((t102) % 4294967296, rd l1 4, rd l1 5, a2)) else (none)) else (none))) else ((spec_PacketGet.f k l1 0 2).bind fun t105 => (if 4 < (l1.length : Int) then (if 5 < (l1.length : Int) then (some ((t105) % 4294967296, rd l1 4, rd l1 5, a2)) else (none)) else (none)))) = some (r1, r2, r3, r4) := h
  clear h
  by_cases c4 : a0 = true
  · subst c4
    have H1 : ((spec_PacketGet.f k l1 0 4).bind fun t102 => (if 4 < (l1.length : Int) then (if 5 < (l1.length : Int) then (some ((t102) % 4294967296, rd l1 4, rd l1 5, a2)) else (none)) else (none))) = some (r1, r2, r3, r4) := by rw [if_pos rfl] at H; exact H
    clear H
    have H := H1
    clear H1
    replace H := Option.bind_eq_some_iff.mp H
    obtain ⟨t102, A50, H⟩ := H
    replace H : (if 4 < (l1.length : Int) then (if 5 < (l1.length : Int) then (some ((t102) % 4294967296, rd l1 4, rd l1 5, a2)) else (none)) else (none)) = some (r1, r2, r3, r4) := H
    have A5 := Aside0.mk A50
    clear A50
    by_cases c6 : 4 < (l1.length : Int)
    · rw [if_pos c6] at H
      have c6b0 : decide (4 < (l1.length : Int)) = true := decide_eq_true c6
      have c6b1 : decide (4 < l1.length) = true := decide_eq_true (by omega)
      clear c6
      by_cases c7 : 5 < (l1.length : Int)
      · rw [if_pos c7] at H
        have c7b0 : decide (5 < (l1.length : Int)) = true := decide_eq_true c7
        have c7b1 : decide (5 < l1.length) = true := decide_eq_true (by omega)
        clear c7
        simp only [Option.some.injEq, Prod.mk.injEq] at H
        obtain ⟨rfl, rfl, rfl, rfl⟩ := H
        go_enter Tryd.func16, Tryd.ntmps16
        try go_wp2_with (first | ((with_reducible refine gate_dst (N := 6) rfl ?_); refine box_event ?hg (N := 6) ?hd (cs := #[.int .u32 0, .int .u8 0, .int .u8 0, .int .u16 0]) (t := 28) ?hr ?_; (case hd => rfl); (case hg => rfl); (case hr => first | (go_simp; done) | (go_simp; rfl)); intro gb101 hg w8 hbox hb; have n0_ := Aside0.mk (below_step (by repeat (first | (with_reducible first | exact HB.out | apply below_alloc | apply pw_below_drewN | apply below_drew1) | exact HB.out)) hb); have n1_ := Aside0.mk (hbox); have n2_ := Aside0.mk ((by rw [hg]; exact (below_size (by repeat (first | (with_reducible first | exact HB.out | apply below_alloc | apply pw_below_drewN | apply below_drew1) | exact HB.out))) : w.heap.size ≤ gb101)); have n3_ := Aside0.mk ((by rw [hg]; exact (below_size (by repeat (first | (with_reducible first | exact HB.out | apply below_alloc | apply pw_below_drewN | apply below_drew1) | exact HB.out))) : w.heap.size ≤ gb101)); clear HB; have HB := n0_; have BK101 := n1_; have GW101 := n2_; have GE101 := n3_; clear n0_ n1_ n2_ n3_; clear hb hbox hg))
        have n0_ := Aside0.mk (blk_drew BK101.out)
        have n1_ := Aside0.mk (below_drew1 HB.out)
        clear BK101
        clear HB
        have BK101 := n0_
        have HB := n1_
        clear n0_ n1_
        have p103 : 0 ≤ (4 : Int) := (by omega)
        have q103 : 4 < (l1.length : Int) := of_decide_eq_true (by first | (with_reducible assumption) | assumption)
        obtain ⟨ad103, e103, hx103_0⟩ := Kd.at_int HR1.out 4 p103 q103
        have hw103_0 := hx103_0
        (try rw [show ((4 : Int)).toNat = 4 from rfl] at hw103_0)
        (try rw [show 4 * 1 = 4 from rfl] at hw103_0)
        (try simp only [Nat.reduceMul, Nat.reduceEqDiff, Go.Addr.add, ↓reduceIte] at hw103_0)
        cases e103
        (try simp only [show (4 : Int).toNat = 4 from rfl, Nat.reduceMul, Nat.reduceEqDiff, Go.Addr.add, ↓reduceIte] at hx103_0)
        have qi103 : (4 < l1.length) = True := eq_true (by omega)
        (try rw [show ((4 : Int)).toNat = 4 from rfl] at hx103_0)
        replace hx103_0 := (HB.out.cell (World.block_lt_of_cell? w _ hx103_0)).trans hx103_0
        replace p103 := eq_true p103
        replace q103 := eq_true q103
        have p104 : 0 ≤ (5 : Int) := (by omega)
        have q104 : 5 < (l1.length : Int) := of_decide_eq_true (by first | (with_reducible assumption) | assumption)
        obtain ⟨ad104, e104, hx104_0⟩ := Kd.at_int HR1.out 5 p104 q104
        have hw104_0 := hx104_0
        (try rw [show ((5 : Int)).toNat = 5 from rfl] at hw104_0)
        (try rw [show 5 * 1 = 5 from rfl] at hw104_0)
        (try simp only [Nat.reduceMul, Nat.reduceEqDiff, Go.Addr.add, ↓reduceIte] at hw104_0)
        obtain rfl : ad103 = ad104 := (by injection e104)
        (try simp only [show (5 : Int).toNat = 5 from rfl, Nat.reduceMul, Nat.reduceEqDiff, Go.Addr.add, ↓reduceIte] at hx104_0)
        have qi104 : (5 < l1.length) = True := eq_true (by omega)
        (try rw [show ((5 : Int)).toNat = 5 from rfl] at hx104_0)
        replace hx104_0 := (HB.out.cell (World.block_lt_of_cell? w _ hx104_0)).trans hx104_0
        replace p104 := eq_true p104
        replace q104 := eq_true q104
        refine start_ (n := 13) (S := fun w' => w'.cell? ⟨ad103.block, ad103.off + 4, none⟩ = some (.int .u8 (rd l1 4)) ∧ w'.cell? ⟨ad103.block, ad103.off + 5, none⟩ = some (.int .u8 (rd l1 5))) (ds := []) #[false, false, false, false, false, false, false, false, false, false, false, false, false] (by kernel_rfl) rfl rfl ⟨((HB.out.cell (World.block_lt_of_cell? w _ hw103_0)).trans hw103_0), ((HB.out.cell (World.block_lt_of_cell? w _ hw104_0)).trans hw104_0)⟩ (fun hHeld => ?_); refine with_tabW spec_PacketHeadOf.tab4 spec_PacketHeadOf.bits4 (fun HT_ HW_ => ?_)
        generalize w8.drew = w9 at BK101 HB hx103_0 hx104_0 hHeld ⊢
        refine pure_ (i := 0) (N := some 9) (v := ?_) (a' := ?_) #[true, false, false, false, false, false, false, false, false, false, false, false, false] rfl rfl (any_of HT_.out (by kernel_rfl)) (fun _ _ _ h => h) (Or.inl ⟨by rfl, ?_⟩) ?_ ?_
        rotate_left
        · intro w'
          go_simp
          with_reducible rfl
        rotate_left
        · simp only [Act.put, List.setIfInBounds_toArray, List.set_cons_zero, List.set_cons_succ, i64_w, i32_w]
          rfl
        refine pure_ (i := 1) (N := some 10) (v := ?_) (a' := ?_) #[true, true, false, false, false, false, false, false, false, false, false, false, false] rfl rfl (any_of HT_.out (by kernel_rfl)) (fun _ _ _ h => h) (Or.inl ⟨by rfl, ?_⟩) ?_ ?_
        rotate_left
        · intro w'
          go_simp
          with_reducible rfl
        rotate_left
        · simp only [Act.put, List.setIfInBounds_toArray, List.set_cons_zero, List.set_cons_succ, i64_w, i32_w]
          rfl
        refine pure_ (i := 4) (N := some 13) (v := ?_) (a' := ?_) #[true, true, false, false, true, false, false, false, false, false, false, false, false] rfl rfl (any_of HT_.out (by kernel_rfl)) (fun _ _ _ h => h) (Or.inl ⟨by rfl, ?_⟩) ?_ ?_
        rotate_left
        · intro w'
          go_simp
          with_reducible rfl
        rotate_left
        · simp only [Act.put, List.setIfInBounds_toArray, List.set_cons_zero, List.set_cons_succ, i64_w, i32_w]
          rfl
        refine pure_ (i := 5) (N := some 14) (v := ?_) (a' := ?_) #[true, true, false, false, true, true, false, false, false, false, false, false, false] rfl rfl (any_of HT_.out (by kernel_rfl)) (fun _ _ _ h => h) (Or.inl ⟨by rfl, ?_⟩) ?_ ?_
        rotate_left
        · intro w'
          go_simp
          with_reducible rfl
        rotate_left
        · simp only [Act.put, List.setIfInBounds_toArray, List.set_cons_zero, List.set_cons_succ, i64_w, i32_w]
          rfl
        refine pure_ (i := 7) (N := some 16) (v := ?_) (a' := ?_) #[true, true, false, false, true, true, false, true, false, false, false, false, false] rfl rfl (any_of HT_.out (by kernel_rfl)) (fun _ _ _ h => h) (Or.inl ⟨by rfl, ?_⟩) ?_ ?_
        rotate_left
        · intro w'
          go_simp
          with_reducible rfl
        rotate_left
        · simp only [Act.put, List.setIfInBounds_toArray, List.set_cons_zero, List.set_cons_succ, i64_w, i32_w]
          rfl
        refine pure_ (i := 8) (N := some 17) (v := ?_) (a' := ?_) #[true, true, false, false, true, true, false, true, true, false, false, false, false] rfl rfl (any_of HT_.out (by kernel_rfl)) (fun _ _ _ h => h) (Or.inl ⟨by rfl, ?_⟩) ?_ ?_
        rotate_left
        · intro w'
          go_simp
          with_reducible rfl
        rotate_left
        · simp only [Act.put, List.setIfInBounds_toArray, List.set_cons_zero, List.set_cons_succ, i64_w, i32_w]
          rfl
        refine pure_ (i := 10) (N := some 19) (v := ?_) (a' := ?_) #[true, true, false, false, true, true, false, true, true, false, true, false, false] rfl rfl (any_of HT_.out (by kernel_rfl)) (fun _ _ _ h => h) (Or.inl ⟨by rfl, ?_⟩) ?_ ?_
        rotate_left
        · intro w'
          go_simp
          with_reducible rfl
        rotate_left
        · simp only [Act.put, List.setIfInBounds_toArray, List.set_cons_zero, List.set_cons_succ, i64_w, i32_w]
          rfl
        refine take_ (i := 6) (N := some 15) (v := ?_) (a' := ?_) #[true, true, false, false, true, true, true, true, true, false, true, false, false] rfl rfl (take_ofW HT_.out HW_.out (by kernel_rfl)) (fun _ _ _ h => h) (Or.inl ⟨by rfl, ?_⟩) hHeld ?_ ?_
        rotate_left
        · rintro w' ⟨s0, s1⟩
          go_simp
          with_reducible rfl
        rotate_left
        · simp only [Act.put, List.setIfInBounds_toArray, List.set_cons_zero, List.set_cons_succ, i64_w, i32_w]
          rfl
        refine take_ (i := 9) (N := some 18) (v := ?_) (a' := ?_) #[true, true, false, false, true, true, true, true, true, true, true, false, false] rfl rfl (take_ofW HT_.out HW_.out (by kernel_rfl)) (fun _ _ _ h => h) (Or.inl ⟨by rfl, ?_⟩) hHeld ?_ ?_
        rotate_left
        · rintro w' ⟨s0, s1⟩
          go_simp
          with_reducible rfl
        rotate_left
        · simp only [Act.put, List.setIfInBounds_toArray, List.set_cons_zero, List.set_cons_succ, i64_w, i32_w]
          rfl
        refine one_ (i := 2) (N := some 11) #[true, true, true, false, true, true, true, true, true, true, true, false, false] rfl rfl (one_of HT_.out (by kernel_rfl)) (by decide) (fun K hK => ?_)
        refine goes_ Tryd.func14 (by kernel_rfl) rfl #[.slice (some ad103) l1.length c1, .int .i64 0, .int .i64 4] (by rfl) rfl rfl (by (try simp only [List.map_toArray, List.map_cons, List.map_nil]); first | done | rfl | (simp only [List.length_drop, List.length_take]; rfl)) ?_
        with_reducible refine (spec_PacketGet.calls k _ _ l1 0 4 t102 _ ?side1 ?side2 A5.out).mono ?_
        (case side1 => repeat (first | exact (Kd.C_below HR1.out HB.out) | (with_reducible refine Kd.C_alloc ?_ _) | (with_reducible refine Kd.C_drewN ?_ _) | (with_reducible refine Kd.C_drew ?_)))
        (case side2 => exact HC1.out)
        rintro e w' ⟨rfl, ⟨nd, rfl⟩⟩
        refine ⟨_, rfl, ?_⟩
        refine hK.out _ _ ⟨((HB.out.cell (World.block_lt_of_cell? w _ hw103_0)).trans hw103_0), ((HB.out.cell (World.block_lt_of_cell? w _ hw104_0)).trans hw104_0)⟩ (fun hHeld => ?_)
        clear hK K
        refine norm_ (a' := ?_) ?_ ?_
        rotate_left
        · show Act.put _ (some 11) _ = _
          simp only [Act.put, List.setIfInBounds_toArray, List.set_cons_zero, List.set_cons_succ, i64_w, i32_w]
          rfl
        refine pure_ (i := 3) (N := some 12) (v := ?_) (a' := ?_) #[true, true, true, true, true, true, true, true, true, true, true, false, false] rfl rfl (any_of HT_.out (by kernel_rfl)) (fun _ _ _ h => h) (Or.inl ⟨by rfl, ?_⟩) ?_ ?_
        rotate_left
        · intro w'
          go_simp
          with_reducible rfl
        rotate_left
        · simp only [Act.put, List.setIfInBounds_toArray, List.set_cons_zero, List.set_cons_succ, i64_w, i32_w]
          rfl
        refine pure_ (i := 11) (N := some 20) (v := ?_) (a' := ?_) #[true, true, true, true, true, true, true, true, true, true, true, true, false] rfl rfl (any_of HT_.out (by kernel_rfl)) (fun _ _ _ h => h) (Or.inl ⟨by rfl, ?_⟩) ?_ ?_
        rotate_left
        · intro w'
          go_simp
          with_reducible rfl
        rotate_left
        · simp only [Act.put, List.setIfInBounds_toArray, List.set_cons_zero, List.set_cons_succ, i64_w, i32_w]
          rfl
        refine one_ (i := 12) (N := none) #[true, true, true, true, true, true, true, true, true, true, true, true, true] rfl rfl (one_of HT_.out (by kernel_rfl)) (by decide) (fun K hK => ?_)
        have hs10 : w9.cell? ⟨gb101, 0, none⟩ = some (.int .u32 0) := (blk_cell BK101.out 0).trans rfl
        have hfs10 := blk_frozen BK101.out 0
        have hs11 : w9.cell? ⟨gb101, 1, none⟩ = some (.int .u8 0) := (blk_cell BK101.out 1).trans rfl
        have hfs11 := blk_frozen BK101.out 1
        have hs12 : w9.cell? ⟨gb101, 2, none⟩ = some (.int .u8 0) := (blk_cell BK101.out 2).trans rfl
        have hfs12 := blk_frozen BK101.out 2
        have hs13 : w9.cell? ⟨gb101, 3, none⟩ = some (.int .u16 0) := (blk_cell BK101.out 3).trans rfl
        have hfs13 := blk_frozen BK101.out 3
        refine skip_ (w1 := ?_) (by rfl) rfl ?_ ?_
        rotate_left
        · go_simp
          rfl
        refine hK.out _ _ ⟨((cell_far (p := ⟨gb101, _, none⟩) (by first | exact Nat.ne_of_lt (Nat.lt_of_lt_of_le (by have := World.block_lt_of_cell? _ _ hw103_0; first | rwa [add_block] at this | exact this) GW101.out) | (rw [add_block]; exact Nat.ne_of_lt (Nat.lt_of_lt_of_le (by have := World.block_lt_of_cell? _ _ hw103_0; first | rwa [add_block] at this | exact this) GW101.out)) | (show (Addr.add _ _).block ≠ _; rw [add_block]; exact Nat.ne_of_lt (Nat.lt_of_lt_of_le (by have := World.block_lt_of_cell? _ _ hw103_0; first | rwa [add_block] at this | exact this) GW101.out)) | (dsimp only; exact Nat.ne_of_lt (Nat.lt_of_lt_of_le (by have := World.block_lt_of_cell? _ _ hw103_0; first | rwa [add_block] at this | exact this) GW101.out))) _).trans (((cell_far (p := ⟨gb101, _, none⟩) (by first | exact Nat.ne_of_lt (Nat.lt_of_lt_of_le (by have := World.block_lt_of_cell? _ _ hw103_0; first | rwa [add_block] at this | exact this) GW101.out) | (rw [add_block]; exact Nat.ne_of_lt (Nat.lt_of_lt_of_le (by have := World.block_lt_of_cell? _ _ hw103_0; first | rwa [add_block] at this | exact this) GW101.out)) | (show (Addr.add _ _).block ≠ _; rw [add_block]; exact Nat.ne_of_lt (Nat.lt_of_lt_of_le (by have := World.block_lt_of_cell? _ _ hw103_0; first | rwa [add_block] at this | exact this) GW101.out)) | (dsimp only; exact Nat.ne_of_lt (Nat.lt_of_lt_of_le (by have := World.block_lt_of_cell? _ _ hw103_0; first | rwa [add_block] at this | exact this) GW101.out))) _).trans (((cell_far (p := ⟨gb101, _, none⟩) (by first | exact Nat.ne_of_lt (Nat.lt_of_lt_of_le (by have := World.block_lt_of_cell? _ _ hw103_0; first | rwa [add_block] at this | exact this) GW101.out) | (rw [add_block]; exact Nat.ne_of_lt (Nat.lt_of_lt_of_le (by have := World.block_lt_of_cell? _ _ hw103_0; first | rwa [add_block] at this | exact this) GW101.out)) | (show (Addr.add _ _).block ≠ _; rw [add_block]; exact Nat.ne_of_lt (Nat.lt_of_lt_of_le (by have := World.block_lt_of_cell? _ _ hw103_0; first | rwa [add_block] at this | exact this) GW101.out)) | (dsimp only; exact Nat.ne_of_lt (Nat.lt_of_lt_of_le (by have := World.block_lt_of_cell? _ _ hw103_0; first | rwa [add_block] at this | exact this) GW101.out))) _).trans (((cell_far (p := ⟨gb101, _, none⟩) (by first | exact Nat.ne_of_lt (Nat.lt_of_lt_of_le (by have := World.block_lt_of_cell? _ _ hw103_0; first | rwa [add_block] at this | exact this) GW101.out) | (rw [add_block]; exact Nat.ne_of_lt (Nat.lt_of_lt_of_le (by have := World.block_lt_of_cell? _ _ hw103_0; first | rwa [add_block] at this | exact this) GW101.out)) | (show (Addr.add _ _).block ≠ _; rw [add_block]; exact Nat.ne_of_lt (Nat.lt_of_lt_of_le (by have := World.block_lt_of_cell? _ _ hw103_0; first | rwa [add_block] at this | exact this) GW101.out)) | (dsimp only; exact Nat.ne_of_lt (Nat.lt_of_lt_of_le (by have := World.block_lt_of_cell? _ _ hw103_0; first | rwa [add_block] at this | exact this) GW101.out))) _).trans (hHeld.1)))))))), ((cell_far (p := ⟨gb101, _, none⟩) (by first | exact Nat.ne_of_lt (Nat.lt_of_lt_of_le (by have := World.block_lt_of_cell? _ _ hw104_0; first | rwa [add_block] at this | exact this) GW101.out) | (rw [add_block]; exact Nat.ne_of_lt (Nat.lt_of_lt_of_le (by have := World.block_lt_of_cell? _ _ hw104_0; first | rwa [add_block] at this | exact this) GW101.out)) | (show (Addr.add _ _).block ≠ _; rw [add_block]; exact Nat.ne_of_lt (Nat.lt_of_lt_of_le (by have := World.block_lt_of_cell? _ _ hw104_0; first | rwa [add_block] at this | exact this) GW101.out)) | (dsimp only; exact Nat.ne_of_lt (Nat.lt_of_lt_of_le (by have := World.block_lt_of_cell? _ _ hw104_0; first | rwa [add_block] at this | exact this) GW101.out))) _).trans (((cell_far (p := ⟨gb101, _, none⟩) (by first | exact Nat.ne_of_lt (Nat.lt_of_lt_of_le (by have := World.block_lt_of_cell? _ _ hw104_0; first | rwa [add_block] at this | exact this) GW101.out) | (rw [add_block]; exact Nat.ne_of_lt (Nat.lt_of_lt_of_le (by have := World.block_lt_of_cell? _ _ hw104_0; first | rwa [add_block] at this | exact this) GW101.out)) | (show (Addr.add _ _).block ≠ _; rw [add_block]; exact Nat.ne_of_lt (Nat.lt_of_lt_of_le (by have := World.block_lt_of_cell? _ _ hw104_0; first | rwa [add_block] at this | exact this) GW101.out)) | (dsimp only; exact Nat.ne_of_lt (Nat.lt_of_lt_of_le (by have := World.block_lt_of_cell? _ _ hw104_0; first | rwa [add_block] at this | exact this) GW101.out))) _).trans (((cell_far (p := ⟨gb101, _, none⟩) (by first | exact Nat.ne_of_lt (Nat.lt_of_lt_of_le (by have := World.block_lt_of_cell? _ _ hw104_0; first | rwa [add_block] at this | exact this) GW101.out) | (rw [add_block]; exact Nat.ne_of_lt (Nat.lt_of_lt_of_le (by have := World.block_lt_of_cell? _ _ hw104_0; first | rwa [add_block] at this | exact this) GW101.out)) | (show (Addr.add _ _).block ≠ _; rw [add_block]; exact Nat.ne_of_lt (Nat.lt_of_lt_of_le (by have := World.block_lt_of_cell? _ _ hw104_0; first | rwa [add_block] at this | exact this) GW101.out)) | (dsimp only; exact Nat.ne_of_lt (Nat.lt_of_lt_of_le (by have := World.block_lt_of_cell? _ _ hw104_0; first | rwa [add_block] at this | exact this) GW101.out))) _).trans (((cell_far (p := ⟨gb101, _, none⟩) (by first | exact Nat.ne_of_lt (Nat.lt_of_lt_of_le (by have := World.block_lt_of_cell? _ _ hw104_0; first | rwa [add_block] at this | exact this) GW101.out) | (rw [add_block]; exact Nat.ne_of_lt (Nat.lt_of_lt_of_le (by have := World.block_lt_of_cell? _ _ hw104_0; first | rwa [add_block] at this | exact this) GW101.out)) | (show (Addr.add _ _).block ≠ _; rw [add_block]; exact Nat.ne_of_lt (Nat.lt_of_lt_of_le (by have := World.block_lt_of_cell? _ _ hw104_0; first | rwa [add_block] at this | exact this) GW101.out)) | (dsimp only; exact Nat.ne_of_lt (Nat.lt_of_lt_of_le (by have := World.block_lt_of_cell? _ _ hw104_0; first | rwa [add_block] at this | exact this) GW101.out))) _).trans (hHeld.2))))))))⟩ (fun hHeld => ?_)
        clear hK K
        refine done_ (done_of HT_.out (by kernel_rfl)) ?_
        try go_wp2
        refine bodyPost_ret (results_cell_row rfl _ _ gb101 28 #[.int .u32 ((t102) % 4294967296), .int .u8 (rd l1 4), .int .u8 (rd l1 5), .int .u16 a2] (0, 0) _ rfl (by (with_reducible repeat (first | refine blk_drewN ?_ _ | refine blk_drew ?_ | refine blk_alloc ?_ _)); refine blk_put (cs := #[.int .u32 ((t102) % 4294967296), .int .u8 (rd l1 4), .int .u8 (rd l1 5), .int .u16 0]) ?_ 3 _ rfl; (with_reducible repeat (first | refine blk_drewN ?_ _ | refine blk_drew ?_ | refine blk_alloc ?_ _)); refine blk_put (cs := #[.int .u32 ((t102) % 4294967296), .int .u8 (rd l1 4), .int .u8 0, .int .u16 0]) ?_ 2 _ rfl; (with_reducible repeat (first | refine blk_drewN ?_ _ | refine blk_drew ?_ | refine blk_alloc ?_ _)); refine blk_put (cs := #[.int .u32 ((t102) % 4294967296), .int .u8 0, .int .u8 0, .int .u16 0]) ?_ 1 _ rfl; (with_reducible repeat (first | refine blk_drewN ?_ _ | refine blk_drew ?_ | refine blk_alloc ?_ _)); refine blk_put (cs := #[.int .u32 0, .int .u8 0, .int .u8 0, .int .u16 0]) ?_ 0 _ rfl; (with_reducible repeat (first | refine blk_drewN ?_ _ | refine blk_drew ?_ | refine blk_alloc ?_ _)); exact BK101.out) Tryd.underlying28 rfl (by kernel_rfl)) rfl ?_
        exact ⟨by first | rfl | (simp [errW_none, errW_some] <;> rfl) | (simp [*, errW_none, errW_some] <;> rfl), by repeat (first | (with_reducible first | exact HB.out | apply below_alloc | apply pw_below_drewN | apply below_drew1 | refine below_set ?_ GE101.out) | exact HB.out)⟩
      · rw [if_neg c7] at H
        exact absurd H (by simp)
    · rw [if_neg c6] at H
      exact absurd H (by simp)
  · replace c4 := Bool.eq_false_iff.mpr c4
    subst c4
    have H1 : ((spec_PacketGet.f k l1 0 2).bind fun t105 => (if 4 < (l1.length : Int) then (if 5 < (l1.length : Int) then (some ((t105) % 4294967296, rd l1 4, rd l1 5, a2)) else (none)) else (none))) = some (r1, r2, r3, r4) := by rw [if_neg (show ¬ (false = true) by decide)] at H; exact H
    clear H
    have H := H1
    clear H1
    replace H := Option.bind_eq_some_iff.mp H
    obtain ⟨t105, A140, H⟩ := H
    replace H : (if 4 < (l1.length : Int) then (if 5 < (l1.length : Int) then (some ((t105) % 4294967296, rd l1 4, rd l1 5, a2)) else (none)) else (none)) = some (r1, r2, r3, r4) := H
    have A14 := Aside0.mk A140
    clear A140
    by_cases c15 : 4 < (l1.length : Int)
    · rw [if_pos c15] at H
      have c15b0 : decide (4 < (l1.length : Int)) = true := decide_eq_true c15
      have c15b1 : decide (4 < l1.length) = true := decide_eq_true (by omega)
      clear c15
      by_cases c16 : 5 < (l1.length : Int)
      · rw [if_pos c16] at H
        have c16b0 : decide (5 < (l1.length : Int)) = true := decide_eq_true c16
        have c16b1 : decide (5 < l1.length) = true := decide_eq_true (by omega)
        clear c16
        simp only [Option.some.injEq, Prod.mk.injEq] at H
        obtain ⟨rfl, rfl, rfl, rfl⟩ := H
        go_enter Tryd.func16, Tryd.ntmps16
        try go_wp2_with (first | ((with_reducible refine gate_dst (N := 6) rfl ?_); refine box_event ?hg (N := 6) ?hd (cs := #[.int .u32 0, .int .u8 0, .int .u8 0, .int .u16 0]) (t := 28) ?hr ?_; (case hd => rfl); (case hg => rfl); (case hr => first | (go_simp; done) | (go_simp; rfl)); intro gb101 hg w17 hbox hb; have n0_ := Aside0.mk (below_step (by repeat (first | (with_reducible first | exact HB.out | apply below_alloc | apply pw_below_drewN | apply below_drew1) | exact HB.out)) hb); have n1_ := Aside0.mk (hbox); have n2_ := Aside0.mk ((by rw [hg]; exact (below_size (by repeat (first | (with_reducible first | exact HB.out | apply below_alloc | apply pw_below_drewN | apply below_drew1) | exact HB.out))) : w.heap.size ≤ gb101)); have n3_ := Aside0.mk ((by rw [hg]; exact (below_size (by repeat (first | (with_reducible first | exact HB.out | apply below_alloc | apply pw_below_drewN | apply below_drew1) | exact HB.out))) : w.heap.size ≤ gb101)); clear HB; have HB := n0_; have BK101 := n1_; have GW101 := n2_; have GE101 := n3_; clear n0_ n1_ n2_ n3_; clear hb hbox hg))
        have n0_ := Aside0.mk (blk_drew BK101.out)
        have n1_ := Aside0.mk (below_drew1 HB.out)
        clear BK101
        clear HB
        have BK101 := n0_
        have HB := n1_
        clear n0_ n1_
        have p106 : 0 ≤ (4 : Int) := (by omega)
        have q106 : 4 < (l1.length : Int) := of_decide_eq_true (by first | (with_reducible assumption) | assumption)
        obtain ⟨ad106, e106, hx106_0⟩ := Kd.at_int HR1.out 4 p106 q106
        have hw106_0 := hx106_0
        (try rw [show ((4 : Int)).toNat = 4 from rfl] at hw106_0)
        (try rw [show 4 * 1 = 4 from rfl] at hw106_0)
        (try simp only [Nat.reduceMul, Nat.reduceEqDiff, Go.Addr.add, ↓reduceIte] at hw106_0)
        cases e106
        (try simp only [show (4 : Int).toNat = 4 from rfl, Nat.reduceMul, Nat.reduceEqDiff, Go.Addr.add, ↓reduceIte] at hx106_0)
        have qi106 : (4 < l1.length) = True := eq_true (by omega)
        (try rw [show ((4 : Int)).toNat = 4 from rfl] at hx106_0)
        replace hx106_0 := (HB.out.cell (World.block_lt_of_cell? w _ hx106_0)).trans hx106_0
        replace p106 := eq_true p106
        replace q106 := eq_true q106
        have p107 : 0 ≤ (5 : Int) := (by omega)
        have q107 : 5 < (l1.length : Int) := of_decide_eq_true (by first | (with_reducible assumption) | assumption)
        obtain ⟨ad107, e107, hx107_0⟩ := Kd.at_int HR1.out 5 p107 q107
        have hw107_0 := hx107_0
        (try rw [show ((5 : Int)).toNat = 5 from rfl] at hw107_0)
        (try rw [show 5 * 1 = 5 from rfl] at hw107_0)
        (try simp only [Nat.reduceMul, Nat.reduceEqDiff, Go.Addr.add, ↓reduceIte] at hw107_0)
        obtain rfl : ad106 = ad107 := (by injection e107)
        (try simp only [show (5 : Int).toNat = 5 from rfl, Nat.reduceMul, Nat.reduceEqDiff, Go.Addr.add, ↓reduceIte] at hx107_0)
        have qi107 : (5 < l1.length) = True := eq_true (by omega)
        (try rw [show ((5 : Int)).toNat = 5 from rfl] at hx107_0)
        replace hx107_0 := (HB.out.cell (World.block_lt_of_cell? w _ hx107_0)).trans hx107_0
        replace p107 := eq_true p107
        replace q107 := eq_true q107
        refine start_ (n := 13) (S := fun w' => w'.cell? ⟨ad106.block, ad106.off + 4, none⟩ = some (.int .u8 (rd l1 4)) ∧ w'.cell? ⟨ad106.block, ad106.off + 5, none⟩ = some (.int .u8 (rd l1 5))) (ds := []) #[false, false, false, false, false, false, false, false, false, false, false, false, false] (by kernel_rfl) rfl rfl ⟨((HB.out.cell (World.block_lt_of_cell? w _ hw106_0)).trans hw106_0), ((HB.out.cell (World.block_lt_of_cell? w _ hw107_0)).trans hw107_0)⟩ (fun hHeld => ?_); refine with_tabW spec_PacketHeadOf.tab4 spec_PacketHeadOf.bits4 (fun HT_ HW_ => ?_)
        generalize w17.drew = w18 at BK101 HB hx106_0 hx107_0 hHeld ⊢
        refine pure_ (i := 0) (N := some 9) (v := ?_) (a' := ?_) #[true, false, false, false, false, false, false, false, false, false, false, false, false] rfl rfl (any_of HT_.out (by kernel_rfl)) (fun _ _ _ h => h) (Or.inl ⟨by rfl, ?_⟩) ?_ ?_
        rotate_left
        · intro w'
          go_simp
          with_reducible rfl
        rotate_left
        · simp only [Act.put, List.setIfInBounds_toArray, List.set_cons_zero, List.set_cons_succ, i64_w, i32_w]
          rfl
        refine pure_ (i := 1) (N := some 10) (v := ?_) (a' := ?_) #[true, true, false, false, false, false, false, false, false, false, false, false, false] rfl rfl (any_of HT_.out (by kernel_rfl)) (fun _ _ _ h => h) (Or.inl ⟨by rfl, ?_⟩) ?_ ?_
        rotate_left
        · intro w'
          go_simp
          with_reducible rfl
        rotate_left
        · simp only [Act.put, List.setIfInBounds_toArray, List.set_cons_zero, List.set_cons_succ, i64_w, i32_w]
          rfl
        refine pure_ (i := 4) (N := some 13) (v := ?_) (a' := ?_) #[true, true, false, false, true, false, false, false, false, false, false, false, false] rfl rfl (any_of HT_.out (by kernel_rfl)) (fun _ _ _ h => h) (Or.inl ⟨by rfl, ?_⟩) ?_ ?_
        rotate_left
        · intro w'
          go_simp
          with_reducible rfl
        rotate_left
        · simp only [Act.put, List.setIfInBounds_toArray, List.set_cons_zero, List.set_cons_succ, i64_w, i32_w]
          rfl
        refine pure_ (i := 5) (N := some 14) (v := ?_) (a' := ?_) #[true, true, false, false, true, true, false, false, false, false, false, false, false] rfl rfl (any_of HT_.out (by kernel_rfl)) (fun _ _ _ h => h) (Or.inl ⟨by rfl, ?_⟩) ?_ ?_
        rotate_left
        · intro w'
          go_simp
          with_reducible rfl
        rotate_left
        · simp only [Act.put, List.setIfInBounds_toArray, List.set_cons_zero, List.set_cons_succ, i64_w, i32_w]
          rfl
        refine pure_ (i := 7) (N := some 16) (v := ?_) (a' := ?_) #[true, true, false, false, true, true, false, true, false, false, false, false, false] rfl rfl (any_of HT_.out (by kernel_rfl)) (fun _ _ _ h => h) (Or.inl ⟨by rfl, ?_⟩) ?_ ?_
        rotate_left
        · intro w'
          go_simp
          with_reducible rfl
        rotate_left
        · simp only [Act.put, List.setIfInBounds_toArray, List.set_cons_zero, List.set_cons_succ, i64_w, i32_w]
          rfl
        refine pure_ (i := 8) (N := some 17) (v := ?_) (a' := ?_) #[true, true, false, false, true, true, false, true, true, false, false, false, false] rfl rfl (any_of HT_.out (by kernel_rfl)) (fun _ _ _ h => h) (Or.inl ⟨by rfl, ?_⟩) ?_ ?_
        rotate_left
        · intro w'
          go_simp
          with_reducible rfl
        rotate_left
        · simp only [Act.put, List.setIfInBounds_toArray, List.set_cons_zero, List.set_cons_succ, i64_w, i32_w]
          rfl
        refine pure_ (i := 10) (N := some 19) (v := ?_) (a' := ?_) #[true, true, false, false, true, true, false, true, true, false, true, false, false] rfl rfl (any_of HT_.out (by kernel_rfl)) (fun _ _ _ h => h) (Or.inl ⟨by rfl, ?_⟩) ?_ ?_
        rotate_left
        · intro w'
          go_simp
          with_reducible rfl
        rotate_left
        · simp only [Act.put, List.setIfInBounds_toArray, List.set_cons_zero, List.set_cons_succ, i64_w, i32_w]
          rfl
        refine take_ (i := 6) (N := some 15) (v := ?_) (a' := ?_) #[true, true, false, false, true, true, true, true, true, false, true, false, false] rfl rfl (take_ofW HT_.out HW_.out (by kernel_rfl)) (fun _ _ _ h => h) (Or.inl ⟨by rfl, ?_⟩) hHeld ?_ ?_
        rotate_left
        · rintro w' ⟨s0, s1⟩
          go_simp
          with_reducible rfl
        rotate_left
        · simp only [Act.put, List.setIfInBounds_toArray, List.set_cons_zero, List.set_cons_succ, i64_w, i32_w]
          rfl
        refine take_ (i := 9) (N := some 18) (v := ?_) (a' := ?_) #[true, true, false, false, true, true, true, true, true, true, true, false, false] rfl rfl (take_ofW HT_.out HW_.out (by kernel_rfl)) (fun _ _ _ h => h) (Or.inl ⟨by rfl, ?_⟩) hHeld ?_ ?_
        rotate_left
        · rintro w' ⟨s0, s1⟩
          go_simp
          with_reducible rfl
        rotate_left
        · simp only [Act.put, List.setIfInBounds_toArray, List.set_cons_zero, List.set_cons_succ, i64_w, i32_w]
          rfl
        refine one_ (i := 2) (N := some 11) #[true, true, true, false, true, true, true, true, true, true, true, false, false] rfl rfl (one_of HT_.out (by kernel_rfl)) (by decide) (fun K hK => ?_)
        refine goes_ Tryd.func14 (by kernel_rfl) rfl #[.slice (some ad106) l1.length c1, .int .i64 0, .int .i64 2] (by rfl) rfl rfl (by (try simp only [List.map_toArray, List.map_cons, List.map_nil]); first | done | rfl | (simp only [List.length_drop, List.length_take]; rfl)) ?_
        with_reducible refine (spec_PacketGet.calls k _ _ l1 0 2 t105 _ ?side1 ?side2 A14.out).mono ?_
        (case side1 => repeat (first | exact (Kd.C_below HR1.out HB.out) | (with_reducible refine Kd.C_alloc ?_ _) | (with_reducible refine Kd.C_drewN ?_ _) | (with_reducible refine Kd.C_drew ?_)))
        (case side2 => exact HC1.out)
        rintro e w' ⟨rfl, ⟨nd, rfl⟩⟩
        refine ⟨_, rfl, ?_⟩
        refine hK.out _ _ ⟨((HB.out.cell (World.block_lt_of_cell? w _ hw106_0)).trans hw106_0), ((HB.out.cell (World.block_lt_of_cell? w _ hw107_0)).trans hw107_0)⟩ (fun hHeld => ?_)
        clear hK K
        refine norm_ (a' := ?_) ?_ ?_
        rotate_left
        · show Act.put _ (some 11) _ = _
          simp only [Act.put, List.setIfInBounds_toArray, List.set_cons_zero, List.set_cons_succ, i64_w, i32_w]
          rfl
        refine pure_ (i := 3) (N := some 12) (v := ?_) (a' := ?_) #[true, true, true, true, true, true, true, true, true, true, true, false, false] rfl rfl (any_of HT_.out (by kernel_rfl)) (fun _ _ _ h => h) (Or.inl ⟨by rfl, ?_⟩) ?_ ?_
        rotate_left
        · intro w'
          go_simp
          with_reducible rfl
        rotate_left
        · simp only [Act.put, List.setIfInBounds_toArray, List.set_cons_zero, List.set_cons_succ, i64_w, i32_w]
          rfl
        refine pure_ (i := 11) (N := some 20) (v := ?_) (a' := ?_) #[true, true, true, true, true, true, true, true, true, true, true, true, false] rfl rfl (any_of HT_.out (by kernel_rfl)) (fun _ _ _ h => h) (Or.inl ⟨by rfl, ?_⟩) ?_ ?_
        rotate_left
        · intro w'
          go_simp
          with_reducible rfl
        rotate_left
        · simp only [Act.put, List.setIfInBounds_toArray, List.set_cons_zero, List.set_cons_succ, i64_w, i32_w]
          rfl
        refine one_ (i := 12) (N := none) #[true, true, true, true, true, true, true, true, true, true, true, true, true] rfl rfl (one_of HT_.out (by kernel_rfl)) (by decide) (fun K hK => ?_)
        have hs19 : w18.cell? ⟨gb101, 0, none⟩ = some (.int .u32 0) := (blk_cell BK101.out 0).trans rfl
        have hfs19 := blk_frozen BK101.out 0
        have hs20 : w18.cell? ⟨gb101, 1, none⟩ = some (.int .u8 0) := (blk_cell BK101.out 1).trans rfl
        have hfs20 := blk_frozen BK101.out 1
        have hs21 : w18.cell? ⟨gb101, 2, none⟩ = some (.int .u8 0) := (blk_cell BK101.out 2).trans rfl
        have hfs21 := blk_frozen BK101.out 2
        have hs22 : w18.cell? ⟨gb101, 3, none⟩ = some (.int .u16 0) := (blk_cell BK101.out 3).trans rfl
        have hfs22 := blk_frozen BK101.out 3
        refine skip_ (w1 := ?_) (by rfl) rfl ?_ ?_
        rotate_left
        · go_simp
          rfl
        refine hK.out _ _ ⟨((cell_far (p := ⟨gb101, _, none⟩) (by first | exact Nat.ne_of_lt (Nat.lt_of_lt_of_le (by have := World.block_lt_of_cell? _ _ hw106_0; first | rwa [add_block] at this | exact this) GW101.out) | (rw [add_block]; exact Nat.ne_of_lt (Nat.lt_of_lt_of_le (by have := World.block_lt_of_cell? _ _ hw106_0; first | rwa [add_block] at this | exact this) GW101.out)) | (show (Addr.add _ _).block ≠ _; rw [add_block]; exact Nat.ne_of_lt (Nat.lt_of_lt_of_le (by have := World.block_lt_of_cell? _ _ hw106_0; first | rwa [add_block] at this | exact this) GW101.out)) | (dsimp only; exact Nat.ne_of_lt (Nat.lt_of_lt_of_le (by have := World.block_lt_of_cell? _ _ hw106_0; first | rwa [add_block] at this | exact this) GW101.out))) _).trans (((cell_far (p := ⟨gb101, _, none⟩) (by first | exact Nat.ne_of_lt (Nat.lt_of_lt_of_le (by have := World.block_lt_of_cell? _ _ hw106_0; first | rwa [add_block] at this | exact this) GW101.out) | (rw [add_block]; exact Nat.ne_of_lt (Nat.lt_of_lt_of_le (by have := World.block_lt_of_cell? _ _ hw106_0; first | rwa [add_block] at this | exact this) GW101.out)) | (show (Addr.add _ _).block ≠ _; rw [add_block]; exact Nat.ne_of_lt (Nat.lt_of_lt_of_le (by have := World.block_lt_of_cell? _ _ hw106_0; first | rwa [add_block] at this | exact this) GW101.out)) | (dsimp only; exact Nat.ne_of_lt (Nat.lt_of_lt_of_le (by have := World.block_lt_of_cell? _ _ hw106_0; first | rwa [add_block] at this | exact this) GW101.out))) _).trans (((cell_far (p := ⟨gb101, _, none⟩) (by first | exact Nat.ne_of_lt (Nat.lt_of_lt_of_le (by have := World.block_lt_of_cell? _ _ hw106_0; first | rwa [add_block] at this | exact this) GW101.out) | (rw [add_block]; exact Nat.ne_of_lt (Nat.lt_of_lt_of_le (by have := World.block_lt_of_cell? _ _ hw106_0; first | rwa [add_block] at this | exact this) GW101.out)) | (show (Addr.add _ _).block ≠ _; rw [add_block]; exact Nat.ne_of_lt (Nat.lt_of_lt_of_le (by have := World.block_lt_of_cell? _ _ hw106_0; first | rwa [add_block] at this | exact this) GW101.out)) | (dsimp only; exact Nat.ne_of_lt (Nat.lt_of_lt_of_le (by have := World.block_lt_of_cell? _ _ hw106_0; first | rwa [add_block] at this | exact this) GW101.out))) _).trans (((cell_far (p := ⟨gb101, _, none⟩) (by first | exact Nat.ne_of_lt (Nat.lt_of_lt_of_le (by have := World.block_lt_of_cell? _ _ hw106_0; first | rwa [add_block] at this | exact this) GW101.out) | (rw [add_block]; exact Nat.ne_of_lt (Nat.lt_of_lt_of_le (by have := World.block_lt_of_cell? _ _ hw106_0; first | rwa [add_block] at this | exact this) GW101.out)) | (show (Addr.add _ _).block ≠ _; rw [add_block]; exact Nat.ne_of_lt (Nat.lt_of_lt_of_le (by have := World.block_lt_of_cell? _ _ hw106_0; first | rwa [add_block] at this | exact this) GW101.out)) | (dsimp only; exact Nat.ne_of_lt (Nat.lt_of_lt_of_le (by have := World.block_lt_of_cell? _ _ hw106_0; first | rwa [add_block] at this | exact this) GW101.out))) _).trans (hHeld.1)))))))), ((cell_far (p := ⟨gb101, _, none⟩) (by first | exact Nat.ne_of_lt (Nat.lt_of_lt_of_le (by have := World.block_lt_of_cell? _ _ hw107_0; first | rwa [add_block] at this | exact this) GW101.out) | (rw [add_block]; exact Nat.ne_of_lt (Nat.lt_of_lt_of_le (by have := World.block_lt_of_cell? _ _ hw107_0; first | rwa [add_block] at this | exact this) GW101.out)) | (show (Addr.add _ _).block ≠ _; rw [add_block]; exact Nat.ne_of_lt (Nat.lt_of_lt_of_le (by have := World.block_lt_of_cell? _ _ hw107_0; first | rwa [add_block] at this | exact this) GW101.out)) | (dsimp only; exact Nat.ne_of_lt (Nat.lt_of_lt_of_le (by have := World.block_lt_of_cell? _ _ hw107_0; first | rwa [add_block] at this | exact this) GW101.out))) _).trans (((cell_far (p := ⟨gb101, _, none⟩) (by first | exact Nat.ne_of_lt (Nat.lt_of_lt_of_le (by have := World.block_lt_of_cell? _ _ hw107_0; first | rwa [add_block] at this | exact this) GW101.out) | (rw [add_block]; exact Nat.ne_of_lt (Nat.lt_of_lt_of_le (by have := World.block_lt_of_cell? _ _ hw107_0; first | rwa [add_block] at this | exact this) GW101.out)) | (show (Addr.add _ _).block ≠ _; rw [add_block]; exact Nat.ne_of_lt (Nat.lt_of_lt_of_le (by have := World.block_lt_of_cell? _ _ hw107_0; first | rwa [add_block] at this | exact this) GW101.out)) | (dsimp only; exact Nat.ne_of_lt (Nat.lt_of_lt_of_le (by have := World.block_lt_of_cell? _ _ hw107_0; first | rwa [add_block] at this | exact this) GW101.out))) _).trans (((cell_far (p := ⟨gb101, _, none⟩) (by first | exact Nat.ne_of_lt (Nat.lt_of_lt_of_le (by have := World.block_lt_of_cell? _ _ hw107_0; first | rwa [add_block] at this | exact this) GW101.out) | (rw [add_block]; exact Nat.ne_of_lt (Nat.lt_of_lt_of_le (by have := World.block_lt_of_cell? _ _ hw107_0; first | rwa [add_block] at this | exact this) GW101.out)) | (show (Addr.add _ _).block ≠ _; rw [add_block]; exact Nat.ne_of_lt (Nat.lt_of_lt_of_le (by have := World.block_lt_of_cell? _ _ hw107_0; first | rwa [add_block] at this | exact this) GW101.out)) | (dsimp only; exact Nat.ne_of_lt (Nat.lt_of_lt_of_le (by have := World.block_lt_of_cell? _ _ hw107_0; first | rwa [add_block] at this | exact this) GW101.out))) _).trans (((cell_far (p := ⟨gb101, _, none⟩) (by first | exact Nat.ne_of_lt (Nat.lt_of_lt_of_le (by have := World.block_lt_of_cell? _ _ hw107_0; first | rwa [add_block] at this | exact this) GW101.out) | (rw [add_block]; exact Nat.ne_of_lt (Nat.lt_of_lt_of_le (by have := World.block_lt_of_cell? _ _ hw107_0; first | rwa [add_block] at this | exact this) GW101.out)) | (show (Addr.add _ _).block ≠ _; rw [add_block]; exact Nat.ne_of_lt (Nat.lt_of_lt_of_le (by have := World.block_lt_of_cell? _ _ hw107_0; first | rwa [add_block] at this | exact this) GW101.out)) | (dsimp only; exact Nat.ne_of_lt (Nat.lt_of_lt_of_le (by have := World.block_lt_of_cell? _ _ hw107_0; first | rwa [add_block] at this | exact this) GW101.out))) _).trans (hHeld.2))))))))⟩ (fun hHeld => ?_)
        clear hK K
        refine done_ (done_of HT_.out (by kernel_rfl)) ?_
        try go_wp2
        refine bodyPost_ret (results_cell_row rfl _ _ gb101 28 #[.int .u32 ((t105) % 4294967296), .int .u8 (rd l1 4), .int .u8 (rd l1 5), .int .u16 a2] (0, 0) _ rfl (by (with_reducible repeat (first | refine blk_drewN ?_ _ | refine blk_drew ?_ | refine blk_alloc ?_ _)); refine blk_put (cs := #[.int .u32 ((t105) % 4294967296), .int .u8 (rd l1 4), .int .u8 (rd l1 5), .int .u16 0]) ?_ 3 _ rfl; (with_reducible repeat (first | refine blk_drewN ?_ _ | refine blk_drew ?_ | refine blk_alloc ?_ _)); refine blk_put (cs := #[.int .u32 ((t105) % 4294967296), .int .u8 (rd l1 4), .int .u8 0, .int .u16 0]) ?_ 2 _ rfl; (with_reducible repeat (first | refine blk_drewN ?_ _ | refine blk_drew ?_ | refine blk_alloc ?_ _)); refine blk_put (cs := #[.int .u32 ((t105) % 4294967296), .int .u8 0, .int .u8 0, .int .u16 0]) ?_ 1 _ rfl; (with_reducible repeat (first | refine blk_drewN ?_ _ | refine blk_drew ?_ | refine blk_alloc ?_ _)); refine blk_put (cs := #[.int .u32 0, .int .u8 0, .int .u8 0, .int .u16 0]) ?_ 0 _ rfl; (with_reducible repeat (first | refine blk_drewN ?_ _ | refine blk_drew ?_ | refine blk_alloc ?_ _)); exact BK101.out) Tryd.underlying28 rfl (by kernel_rfl)) rfl ?_
        exact ⟨by first | rfl | (simp [errW_none, errW_some] <;> rfl) | (simp [*, errW_none, errW_some] <;> rfl), by repeat (first | (with_reducible first | exact HB.out | apply below_alloc | apply pw_below_drewN | apply below_drew1 | refine below_set ?_ GE101.out) | exact HB.out)⟩
      · rw [if_neg c16] at H
        exact absurd H (by simp)
    · rw [if_neg c15] at H
      exact absurd H (by simp)

/-! ### spec_packetLong: function 29 -/
def spec_packetLong.f (a0_0 : Int) (a0_1 : Int) (a0_2 : Int) (a0_3 : Int) (a0_4 : Int) (a0_5 : Int) (a0_6 : Int) (a0_7 : Int) (a0_8 : Int) (a0_9 : Bool) : Option (Bool) := if a0_9 = true then (some (decide (a0_0 ≥ 315))) else (some false)
set_option maxHeartbeats 8000000 in
set_option maxRecDepth 100000 in
theorem spec_packetLong.calls (a0_0 : Int) (a0_1 : Int) (a0_2 : Int) (a0_3 : Int) (a0_4 : Int) (a0_5 : Int) (a0_6 : Int) (a0_7 : Int) (a0_8 : Int) (a0_9 : Bool) (r : Bool) (w : World) (h : spec_packetLong.f a0_0 a0_1 a0_2 a0_3 a0_4 a0_5 a0_6 a0_7 a0_8 a0_9 = some r) :
    Calls Tryd.prog 29 #[.agg #[.int .u16 a0_0, .int .u16 a0_1, .int .u16 a0_2, .int .u16 a0_3, .int .u16 a0_4, .int .u8 a0_5, .int .u8 a0_6, .int .u32 a0_7, .int .u32 a0_8, .bool a0_9]] w fun e w' => e = .returned (.bool r) ∧ Below w.heap.size w w' := by
  have hu34 := Tryd.underlying34
  have HB := Aside0.mk (Below.refl w.heap.size w)
  have H : (if a0_9 = true then (some (decide (a0_0 ≥ 315))) else (some false)) = some r := h
  clear h
  by_cases c2 : a0_9 = true
  · subst c2
    have H1 : (some (decide (a0_0 ≥ 315))) = some r := by rw [if_pos rfl] at H; exact H
    clear H
    have H := H1
    clear H1
    obtain rfl := Option.some.inj H
    go_enter Tryd.func29, Tryd.ntmps29
    go_wp2_with (first | ((with_reducible refine gate_dst (N := 1) rfl ?_); refine box_event ?hg (N := 1) ?hd (cs := #[.int .u16 a0_0, .int .u16 a0_1, .int .u16 a0_2, .int .u16 a0_3, .int .u16 a0_4, .int .u8 a0_5, .int .u8 a0_6, .int .u32 a0_7, .int .u32 a0_8, .bool true]) (t := 34) ?hr ?_; (case hd => rfl); (case hg => rfl); (case hr => first | (go_simp; done) | (go_simp; rfl)); intro gb108 hg w3 hbox hb; have n0_ := Aside0.mk (below_step (by repeat (first | (with_reducible first | exact HB.out | apply below_alloc | apply pw_below_drewN | apply below_drew1) | exact HB.out)) hb); have n1_ := Aside0.mk (hbox); have n2_ := Aside0.mk ((by rw [hg]; exact (below_size (by repeat (first | (with_reducible first | exact HB.out | apply below_alloc | apply pw_below_drewN | apply below_drew1) | exact HB.out))) : w.heap.size ≤ gb108)); have n3_ := Aside0.mk ((by rw [hg]; exact (below_size (by repeat (first | (with_reducible first | exact HB.out | apply below_alloc | apply pw_below_drewN | apply below_drew1) | exact HB.out))) : w.heap.size ≤ gb108)); clear HB; have HB := n0_; have BK108 := n1_; have GW108 := n2_; have GE108 := n3_; clear n0_ n1_ n2_ n3_; clear hb hbox hg; have hcz4_0 : w3.cell? ⟨gb108, 0, none⟩ = some (.int .u16 a0_0) := (blk_cell BK108.out 0).trans rfl; have hcz4_1 : w3.cell? ⟨gb108, 1, none⟩ = some (.int .u16 a0_1) := (blk_cell BK108.out 1).trans rfl; have hcz4_2 : w3.cell? ⟨gb108, 2, none⟩ = some (.int .u16 a0_2) := (blk_cell BK108.out 2).trans rfl; have hcz4_3 : w3.cell? ⟨gb108, 3, none⟩ = some (.int .u16 a0_3) := (blk_cell BK108.out 3).trans rfl; have hcz4_4 : w3.cell? ⟨gb108, 4, none⟩ = some (.int .u16 a0_4) := (blk_cell BK108.out 4).trans rfl; have hcz4_5 : w3.cell? ⟨gb108, 5, none⟩ = some (.int .u8 a0_5) := (blk_cell BK108.out 5).trans rfl; have hcz4_6 : w3.cell? ⟨gb108, 6, none⟩ = some (.int .u8 a0_6) := (blk_cell BK108.out 6).trans rfl; have hcz4_7 : w3.cell? ⟨gb108, 7, none⟩ = some (.int .u32 a0_7) := (blk_cell BK108.out 7).trans rfl; have hcz4_8 : w3.cell? ⟨gb108, 8, none⟩ = some (.int .u32 a0_8) := (blk_cell BK108.out 8).trans rfl; have hcz4_9 : w3.cell? ⟨gb108, 9, none⟩ = some (.bool true) := (blk_cell BK108.out 9).trans rfl; have hfz4_0 := blk_frozen BK108.out 0; have hfz4_1 := blk_frozen BK108.out 1; have hfz4_2 := blk_frozen BK108.out 2; have hfz4_3 := blk_frozen BK108.out 3; have hfz4_4 := blk_frozen BK108.out 4; have hfz4_5 := blk_frozen BK108.out 5; have hfz4_6 := blk_frozen BK108.out 6; have hfz4_7 := blk_frozen BK108.out 7; have hfz4_8 := blk_frozen BK108.out 8; have hfz4_9 := blk_frozen BK108.out 9))
    go_ret
    exact ⟨by first | rfl | (simp [errW_none, errW_some] <;> rfl) | (simp [*, errW_none, errW_some] <;> rfl), by repeat (first | (with_reducible first | exact HB.out | apply below_alloc | apply pw_below_drewN | apply below_drew1 | refine below_set ?_ GE108.out) | exact HB.out)⟩
  · replace c2 := Bool.eq_false_iff.mpr c2
    subst c2
    have H1 : (some false) = some r := by rw [if_neg (show ¬ (false = true) by decide)] at H; exact H
    clear H
    have H := H1
    clear H1
    obtain rfl := Option.some.inj H
    go_enter Tryd.func29, Tryd.ntmps29
    go_wp2_with (first | ((with_reducible refine gate_dst (N := 1) rfl ?_); refine box_event ?hg (N := 1) ?hd (cs := #[.int .u16 a0_0, .int .u16 a0_1, .int .u16 a0_2, .int .u16 a0_3, .int .u16 a0_4, .int .u8 a0_5, .int .u8 a0_6, .int .u32 a0_7, .int .u32 a0_8, .bool false]) (t := 34) ?hr ?_; (case hd => rfl); (case hg => rfl); (case hr => first | (go_simp; done) | (go_simp; rfl)); intro gb108 hg w5 hbox hb; have n0_ := Aside0.mk (below_step (by repeat (first | (with_reducible first | exact HB.out | apply below_alloc | apply pw_below_drewN | apply below_drew1) | exact HB.out)) hb); have n1_ := Aside0.mk (hbox); have n2_ := Aside0.mk ((by rw [hg]; exact (below_size (by repeat (first | (with_reducible first | exact HB.out | apply below_alloc | apply pw_below_drewN | apply below_drew1) | exact HB.out))) : w.heap.size ≤ gb108)); have n3_ := Aside0.mk ((by rw [hg]; exact (below_size (by repeat (first | (with_reducible first | exact HB.out | apply below_alloc | apply pw_below_drewN | apply below_drew1) | exact HB.out))) : w.heap.size ≤ gb108)); clear HB; have HB := n0_; have BK108 := n1_; have GW108 := n2_; have GE108 := n3_; clear n0_ n1_ n2_ n3_; clear hb hbox hg; have hcz6_0 : w5.cell? ⟨gb108, 0, none⟩ = some (.int .u16 a0_0) := (blk_cell BK108.out 0).trans rfl; have hcz6_1 : w5.cell? ⟨gb108, 1, none⟩ = some (.int .u16 a0_1) := (blk_cell BK108.out 1).trans rfl; have hcz6_2 : w5.cell? ⟨gb108, 2, none⟩ = some (.int .u16 a0_2) := (blk_cell BK108.out 2).trans rfl; have hcz6_3 : w5.cell? ⟨gb108, 3, none⟩ = some (.int .u16 a0_3) := (blk_cell BK108.out 3).trans rfl; have hcz6_4 : w5.cell? ⟨gb108, 4, none⟩ = some (.int .u16 a0_4) := (blk_cell BK108.out 4).trans rfl; have hcz6_5 : w5.cell? ⟨gb108, 5, none⟩ = some (.int .u8 a0_5) := (blk_cell BK108.out 5).trans rfl; have hcz6_6 : w5.cell? ⟨gb108, 6, none⟩ = some (.int .u8 a0_6) := (blk_cell BK108.out 6).trans rfl; have hcz6_7 : w5.cell? ⟨gb108, 7, none⟩ = some (.int .u32 a0_7) := (blk_cell BK108.out 7).trans rfl; have hcz6_8 : w5.cell? ⟨gb108, 8, none⟩ = some (.int .u32 a0_8) := (blk_cell BK108.out 8).trans rfl; have hcz6_9 : w5.cell? ⟨gb108, 9, none⟩ = some (.bool false) := (blk_cell BK108.out 9).trans rfl; have hfz6_0 := blk_frozen BK108.out 0; have hfz6_1 := blk_frozen BK108.out 1; have hfz6_2 := blk_frozen BK108.out 2; have hfz6_3 := blk_frozen BK108.out 3; have hfz6_4 := blk_frozen BK108.out 4; have hfz6_5 := blk_frozen BK108.out 5; have hfz6_6 := blk_frozen BK108.out 6; have hfz6_7 := blk_frozen BK108.out 7; have hfz6_8 := blk_frozen BK108.out 8; have hfz6_9 := blk_frozen BK108.out 9))
    go_ret
    exact ⟨by first | rfl | (simp [errW_none, errW_some] <;> rfl) | (simp [*, errW_none, errW_some] <;> rfl), by repeat (first | (with_reducible first | exact HB.out | apply below_alloc | apply pw_below_drewN | apply below_drew1 | refine below_set ?_ GE108.out) | exact HB.out)⟩

/-! ### spec_PacketLong: function 17 -/
def spec_PacketLong.f (a0_0 : Int) (a0_1 : Int) (a0_2 : Int) (a0_3 : Int) (a0_4 : Int) (a0_5 : Int) (a0_6 : Int) (a0_7 : Int) (a0_8 : Int) (a0_9 : Bool) : Option (Bool) := (spec_packetLong.f a0_0 a0_1 a0_2 a0_3 a0_4 a0_5 a0_6 a0_7 a0_8 a0_9).bind fun t110 => (some t110)
set_option maxHeartbeats 8000000 in
set_option maxRecDepth 100000 in
theorem spec_PacketLong.calls (a0_0 : Int) (a0_1 : Int) (a0_2 : Int) (a0_3 : Int) (a0_4 : Int) (a0_5 : Int) (a0_6 : Int) (a0_7 : Int) (a0_8 : Int) (a0_9 : Bool) (r : Bool) (w : World) (h : spec_PacketLong.f a0_0 a0_1 a0_2 a0_3 a0_4 a0_5 a0_6 a0_7 a0_8 a0_9 = some r) :
    Calls Tryd.prog 17 #[.agg #[.int .u16 a0_0, .int .u16 a0_1, .int .u16 a0_2, .int .u16 a0_3, .int .u16 a0_4, .int .u8 a0_5, .int .u8 a0_6, .int .u32 a0_7, .int .u32 a0_8, .bool a0_9]] w fun e w' => e = .returned (.bool r) ∧ Below w.heap.size w w' := by
  have hu34 := Tryd.underlying34
  have HB := Aside0.mk (Below.refl w.heap.size w)
  have H : ((spec_packetLong.f a0_0 a0_1 a0_2 a0_3 a0_4 a0_5 a0_6 a0_7 a0_8 a0_9).bind fun t110 => (some t110)) = some r := h
  clear h
  replace H := Option.bind_eq_some_iff.mp H
  obtain ⟨t110, A20, H⟩ := H
  replace H : (some t110) = some r := H
  have A2 := Aside0.mk A20
  clear A20
  obtain rfl := Option.some.inj H
  go_enter Tryd.func17, Tryd.ntmps17
  go_wp2_with (first | ((with_reducible refine gate_dst (N := 1) rfl ?_); refine box_event ?hg (N := 1) ?hd (cs := #[.int .u16 a0_0, .int .u16 a0_1, .int .u16 a0_2, .int .u16 a0_3, .int .u16 a0_4, .int .u8 a0_5, .int .u8 a0_6, .int .u32 a0_7, .int .u32 a0_8, .bool a0_9]) (t := 34) ?hr ?_; (case hd => rfl); (case hg => rfl); (case hr => first | (go_simp; done) | (go_simp; rfl)); intro gb109 hg w3 hbox hb; have n0_ := Aside0.mk (below_step (by repeat (first | (with_reducible first | exact HB.out | apply below_alloc | apply pw_below_drewN | apply below_drew1) | exact HB.out)) hb); have n1_ := Aside0.mk (hbox); have n2_ := Aside0.mk ((by rw [hg]; exact (below_size (by repeat (first | (with_reducible first | exact HB.out | apply below_alloc | apply pw_below_drewN | apply below_drew1) | exact HB.out))) : w.heap.size ≤ gb109)); have n3_ := Aside0.mk ((by rw [hg]; exact (below_size (by repeat (first | (with_reducible first | exact HB.out | apply below_alloc | apply pw_below_drewN | apply below_drew1) | exact HB.out))) : w.heap.size ≤ gb109)); clear HB; have HB := n0_; have BK109 := n1_; have GW109 := n2_; have GE109 := n3_; clear n0_ n1_ n2_ n3_; clear hb hbox hg; have hcz4_0 : w3.cell? ⟨gb109, 0, none⟩ = some (.int .u16 a0_0) := (blk_cell BK109.out 0).trans rfl; have hcz4_1 : w3.cell? ⟨gb109, 1, none⟩ = some (.int .u16 a0_1) := (blk_cell BK109.out 1).trans rfl; have hcz4_2 : w3.cell? ⟨gb109, 2, none⟩ = some (.int .u16 a0_2) := (blk_cell BK109.out 2).trans rfl; have hcz4_3 : w3.cell? ⟨gb109, 3, none⟩ = some (.int .u16 a0_3) := (blk_cell BK109.out 3).trans rfl; have hcz4_4 : w3.cell? ⟨gb109, 4, none⟩ = some (.int .u16 a0_4) := (blk_cell BK109.out 4).trans rfl; have hcz4_5 : w3.cell? ⟨gb109, 5, none⟩ = some (.int .u8 a0_5) := (blk_cell BK109.out 5).trans rfl; have hcz4_6 : w3.cell? ⟨gb109, 6, none⟩ = some (.int .u8 a0_6) := (blk_cell BK109.out 6).trans rfl; have hcz4_7 : w3.cell? ⟨gb109, 7, none⟩ = some (.int .u32 a0_7) := (blk_cell BK109.out 7).trans rfl; have hcz4_8 : w3.cell? ⟨gb109, 8, none⟩ = some (.int .u32 a0_8) := (blk_cell BK109.out 8).trans rfl; have hcz4_9 : w3.cell? ⟨gb109, 9, none⟩ = some (.bool a0_9) := (blk_cell BK109.out 9).trans rfl; have hfz4_0 := blk_frozen BK109.out 0; have hfz4_1 := blk_frozen BK109.out 1; have hfz4_2 := blk_frozen BK109.out 2; have hfz4_3 := blk_frozen BK109.out 3; have hfz4_4 := blk_frozen BK109.out 4; have hfz4_5 := blk_frozen BK109.out 5; have hfz4_6 := blk_frozen BK109.out 6; have hfz4_7 := blk_frozen BK109.out 7; have hfz4_8 := blk_frozen BK109.out 8; have hfz4_9 := blk_frozen BK109.out 9) | ((with_reducible refine gate_callee (f := 29) rfl ?_); refine goesL_ (some 4) rfl rfl Tryd.func29 (by kernel_rfl) rfl #[.agg #[.int .u16 a0_0, .int .u16 a0_1, .int .u16 a0_2, .int .u16 a0_3, .int .u16 a0_4, .int .u8 a0_5, .int .u8 a0_6, .int .u32 a0_7, .int .u32 a0_8, .bool a0_9]] rfl (by (try simp only [List.map_toArray, List.map_cons, List.map_nil]); first | done | rfl | (simp only [List.length_drop, List.length_take]; rfl)) ?_; (with_reducible refine (spec_packetLong.calls a0_0 a0_1 a0_2 a0_3 a0_4 a0_5 a0_6 a0_7 a0_8 a0_9 t110 _ A2.out).mono ?_); rintro e w5 ⟨rfl, hb⟩; refine ⟨_, rfl, ?_⟩; have n0_ := Aside0.mk (blk_below (g := gb109) (o := .cells #[.int .u16 a0_0, .int .u16 a0_1, .int .u16 a0_2, .int .u16 a0_3, .int .u16 a0_4, .int .u8 a0_5, .int .u8 a0_6, .int .u32 a0_7, .int .u32 a0_8, .bool a0_9] 34 (0, 0)) (by (with_reducible repeat (first | refine blk_drewN ?_ _ | refine blk_drew ?_ | refine blk_alloc ?_ _)); exact BK109.out) hb); have n1_ := Aside0.mk (below_step (by repeat (first | (with_reducible first | exact HB.out | apply below_alloc | apply pw_below_drewN | apply below_drew1 | refine below_set ?_ GE109.out) | exact HB.out)) hb); clear BK109; clear HB; have BK109 := n0_; have HB := n1_; clear n0_ n1_; (try clear hb); (try clear hb2); (try clear hk); (try clear hi)))
  go_ret
  exact ⟨by first | rfl | (simp [errW_none, errW_some] <;> rfl) | (simp [*, errW_none, errW_some] <;> rfl), by repeat (first | (with_reducible first | exact HB.out | apply below_alloc | apply pw_below_drewN | apply below_drew1 | refine below_set ?_ GE109.out) | exact HB.out)⟩

-- GIVEN: function 21 (impl_MarkerBytes)

-- GIVEN: function 22 (impl_MarkerRead)

-- GIVEN: function 23 (spec_PacketMarker)

end Go.Proofs.YtpacjdlgnoiheaaDoor.ZV
