/- spec.packetPut: as the kit's print writes it. -/
import Derived.Test.YtpacjdlgnoiheaaDoorPw
namespace Go.Proofs.YtpacjdlgnoiheaaDoor.X
open Go.RowKit Go.Proofs.YtpacjdlgnoiheaaDoorW.PrintWords Go.Proofs.YtpacjdlgnoiheaaDoorW.PrintLast Go.Proofs.YtpacjdlgnoiheaaDoorW.PrintMore
attribute [local go_sem] max2_int min2_int max_two min_two max_three min_three max_four min_four
set_option linter.unusedVariables false
set_option linter.unusedSimpArgs false

/-! ### spec_packetPut: function 24 -/
def spec_packetPut.l0 : Nat → List Int → Int → Int → Int → Int → Option (List Int)
  | 0, _, _, _, _, _ => none
  | k + 1, x0, x1, x2, x3, x8 => if x8 < x2 then (if 0 ≤ (wrap64 (8 * (wrap64 ((wrap64 (x2 - 1)) - x8)))) then (if 0 ≤ (wrap64 (x1 + x8)) then (if (wrap64 (x1 + x8)) < (x0.length : Int) then (spec_packetPut.l0 k (x0.set ((wrap64 (x1 + x8)) : Int).toNat ((shr .u64 x3 (wrap64 (8 * (wrap64 ((wrap64 (x2 - 1)) - x8))))) % 256)) x1 x2 x3 (wrap64 (x8 + 1))) else (none)) else (none)) else (none)) else (some x0)
def spec_packetPut.f (k : Nat) (l0 : List Int) (a1 : Int) (a2 : Int) (a3 : Int) : Option (List Int) := spec_packetPut.l0 k l0 a1 a2 a3 0
theorem spec_packetPut.mono_l : ∀ k, (∀ y0 y1 y2 y3 y4, LeO (spec_packetPut.l0 k y0 y1 y2 y3 y4) (spec_packetPut.l0 (k + 1) y0 y1 y2 y3 y4))
  | 0 => fun _ _ _ _ _ r h => by simp [spec_packetPut.l0] at h
  | k + 1 => by
    have ih0 := spec_packetPut.mono_l k
    · intro y0 y1 y2 y3 y4
      unfold spec_packetPut.l0
      repeat' first
      | (with_reducible exact ih0 _ _ _ _ _)
      | (with_reducible exact LeO.refl _)
      | (with_reducible exact LeO.none _)
      | (with_reducible refine LeO.ite ?_ ?_)
      | (with_reducible refine LeO.bind ?_ (fun _ => ?_))
      | exact ih0 _ _ _ _ _
      | exact LeO.none _
      | refine LeO.ite ?_ ?_
      | refine LeO.bind ?_ (fun _ => ?_)
theorem spec_packetPut.mono : ∀ a0 a1 a2 a3 k, LeO (spec_packetPut.f k a0 a1 a2 a3) (spec_packetPut.f (k + 1) a0 a1 a2 a3) := by
  intro a0 a1 a2 a3 k
  have ih0 := spec_packetPut.mono_l k
  unfold spec_packetPut.f
  repeat' first
      | (with_reducible exact ih0 _ _ _ _ _)
      | (with_reducible exact LeO.refl _)
      | (with_reducible exact LeO.none _)
      | (with_reducible refine LeO.ite ?_ ?_)
      | (with_reducible refine LeO.bind ?_ (fun _ => ?_))
      | exact ih0 _ _ _ _ _
      | exact LeO.none _
      | refine LeO.ite ?_ ?_
      | refine LeO.bind ?_ (fun _ => ?_)
set_option maxHeartbeats 8000000 in
set_option maxRecDepth 100000 in
theorem spec_packetPut.calls (k : Nat) (P0_ : Nat → Prop) (u9000_ : Value) (l0 : List Int) (a1 : Int) (a2 : Int) (a3 : Int) (r : List Int) (w0 w : World) (hB : Below w0.heap.size w0 w) (ho0 : Kd.R (Kd.int .u8) 5 w w0.heap.size P0_ u9000_ l0) (h : spec_packetPut.f k l0 a1 a2 a3 = some r) :
    Calls Tryd.prog 24 #[u9000_, .int .i64 a1, .int .i64 a2, .int .u64 a3] w fun e w' => e = .returned (.tuple #[]) ∧ Kd.R (Kd.int .u8) 5 w' w0.heap.size (fun k_ => (P0_ k_ ∨ w.heap.size ≤ k_)) u9000_ r ∧ Below w0.heap.size w0 w' ∧ Kept w w' (fun k_ => P0_ k_) := by
  have HO0 := Aside0.mk (show Kd.R (Kd.int .u8) 5 w w0.heap.size (fun k_ => (P0_ k_ ∨ w.heap.size ≤ k_)) u9000_ l0 from Kd.R_mono ho0 (fun k_ hk => (.inl hk)))
  have HK := Aside0.mk (Kept.refl w (fun k_ => P0_ k_))
  have HW0 := Aside0.mk hB.size
  have HB := Aside0.mk hB
  clear hB
  have H : (spec_packetPut.l0 k l0 a1 a2 a3 0) = some r := h
  clear h
  have H' := Aside0.mk H
  clear H
  go_enter Tryd.func24, Tryd.ntmps24
  go_wp2
  go_loopg [8] k (fun kq v8 w' => ∃ (x0_1 : List Int) (x8_1 : Int), v8 = .int .i64 x8_1 ∧ Aside0 (spec_packetPut.l0 kq x0_1 a1 a2 a3 x8_1 = some r) ∧ Aside0 (kq ≤ k) ∧ Aside0 (Kd.R (Kd.int .u8) 5 w' w0.heap.size (fun k_ => (P0_ k_ ∨ w.heap.size ≤ k_)) u9000_ x0_1) ∧ Aside0 (Kept w w' (fun k_ => P0_ k_)) ∧ Aside0 (Below w0.heap.size w0 w'))
  case atStart => exact ⟨(l0), (0), (by first | rfl | (simp; done) | (simp [*]; done)), H', ⟨Nat.le_refl _⟩, ⟨by (with_reducible repeat (first | apply Kd.R_alloc | apply Kd.R_drewN | apply Kd.R_drew)); exact HO0.out⟩, ⟨by repeat (first | (with_reducible first | exact HK.out | apply Kept.alloc | apply Kept.drewN | apply Kept.drew) | exact HK.out)⟩, ⟨by repeat (first | (with_reducible first | exact HB.out | apply below_alloc | apply pw_below_drewN | apply below_drew1) | exact HB.out)⟩⟩
  case round =>
    clear H'
    try clear c2
    try clear p2
    obtain ⟨x0_1, x8_1, rfl, HA, HK1, HO_0, HK, HB⟩ := hrel
    cases gk with
    | zero => exact absurd HA.out (by simp [spec_packetPut.l0])
    | succ k1 =>
      have H := HA.out
      clear HA
      simp only [spec_packetPut.l0] at H
      by_cases c5 : x8_1 < a2
      · rw [if_pos c5] at H
        have c5b0 : decide (x8_1 < a2) = true := decide_eq_true c5
        clear c5
        obtain ⟨ji6, hji6⟩ : ∃ j_ : Int, (wrap64 (8 * (wrap64 ((wrap64 (a2 - 1)) - x8_1)))) = j_ := ⟨_, rfl⟩
        replace H : (if 0 ≤ (ji6) then (if 0 ≤ (wrap64 (a1 + x8_1)) then (if (wrap64 (a1 + x8_1)) < (x0_1.length : Int) then (spec_packetPut.l0 k1 (x0_1.set ((wrap64 (a1 + x8_1)) : Int).toNat ((shr .u64 a3 (ji6)) % 256)) a1 a2 a3 (wrap64 (x8_1 + 1))) else (none)) else (none)) else (none)) = some r := by first | (rw [hji6] at H; exact H) | (simp only [hji6] at H ⊢; exact H)
        have hji6w : (IntKind.i64.wrap (8 * (wrap64 ((wrap64 (a2 - 1)) - x8_1)))) = ji6 := (i64_w _).trans hji6
        by_cases c7 : 0 ≤ (ji6)
        · rw [if_pos c7] at H
          have c7b0 := eq_true c7
          have c7b1 : decide (0 ≤ (ji6)) = true := decide_eq_true c7
          clear c7
          obtain ⟨ji8, hji8⟩ : ∃ j_ : Int, (shr .u64 a3 (ji6)) = j_ := ⟨_, rfl⟩
          replace H : (if 0 ≤ (wrap64 (a1 + x8_1)) then (if (wrap64 (a1 + x8_1)) < (x0_1.length : Int) then (spec_packetPut.l0 k1 (x0_1.set ((wrap64 (a1 + x8_1)) : Int).toNat ((ji8) % 256)) a1 a2 a3 (wrap64 (x8_1 + 1))) else (none)) else (none)) = some r := by first | (rw [hji8] at H; exact H) | (simp only [hji8] at H ⊢; exact H)
          have hji8_ : (a3 / 2 ^ min (ji6).toNat 64) = ji8 := hji8
          have hji8z : (ji6) ≤ 64 → (a3 / 2 ^ (ji6).toNat) = ji8 := shr_small hji8
          obtain ⟨ji9, hji9⟩ : ∃ j_ : Int, (wrap64 (a1 + x8_1)) = j_ := ⟨_, rfl⟩
          replace H : (if 0 ≤ (ji9) then (if (ji9) < (x0_1.length : Int) then (spec_packetPut.l0 k1 (x0_1.set ((ji9) : Int).toNat ((ji8) % 256)) a1 a2 a3 (wrap64 (x8_1 + 1))) else (none)) else (none)) = some r := by first | (rw [hji9] at H; exact H) | (simp only [hji9] at H ⊢; exact H)
          have hji9w : (IntKind.i64.wrap (a1 + x8_1)) = ji9 := (i64_w _).trans hji9
          by_cases c10 : 0 ≤ (ji9)
          · rw [if_pos c10] at H
            have c10b0 : decide (0 ≤ (ji9)) = true := decide_eq_true c10
            clear c10
            by_cases c11 : (ji9) < (x0_1.length : Int)
            · rw [if_pos c11] at H
              have c11b0 : decide ((ji9) < (x0_1.length : Int)) = true := decide_eq_true c11
              clear c11
              obtain ⟨y101, hy101⟩ : ∃ y_ : List Int, y_ = (x0_1.set ((ji9) : Int).toNat ((ji8) % 256)) := ⟨_, rfl⟩
              replace H : (spec_packetPut.l0 k1 y101 a1 a2 a3 (wrap64 (x8_1 + 1))) = some r := by first | (rw [hy101]; with_reducible exact H) | (have H2_ := (Option.bind_some _ _).symm.trans H; rw [hy101]; with_reducible exact H2_) | (have H2_ := (Option.bind_some _ _).symm.trans H; with_reducible exact H2_) | with_reducible exact H | (rw [hy101]; exact H) | exact H
              have Ny101 := Aside0.mk hy101
              clear hy101
              have H' := Aside0.mk H
              clear H
              have p12 : 0 ≤ ((ji9) : Int) := of_decide_eq_true (by first | (with_reducible assumption) | assumption)
              have q12 : ((ji9) : Int) < ((x0_1.length : Int) : Int) := of_decide_eq_true (by first | (with_reducible assumption) | assumption)
              obtain ⟨go12, co12, eo12, gb12, gl12, cl12, HG12⟩ := Kd.R_form HO_0.out (by omega)
              (first | cases eo12 | (injection eo12 with ea_ en_ ec_; (first | subst ea_ | (injection ea_ with ea_; subst ea_)); subst ec_; clear en_))
              have GB12 := Aside0.mk gb12
              have GG12 := Aside0.mk HG12
              clear gb12 gl12 HG12
              have HMgo12 := Aside0.mk (show (P0_ go12 ∨ w.heap.size ≤ go12) from (HO_0.out.1 _ rfl))
              obtain ⟨hx12_0, hf12_0⟩ := Kd.R_celln 0 HO_0.out ((ji9) : Int) p12 q12
              replace p12 := eq_true p12
              replace q12 := eq_true q12
              have HP13 := Kd.R_putg HO_0.out ((ji9) : Int) ((ji8) % 256)
              go_wp2_with (first | ((with_reducible refine gate_store (t := 5) (p := 26) rfl ?_); refine store_event (t := 5) (p := 26) (v := ?vo_w14) (w1 := (wr.setCell ⟨go12, ((ji9) : Int).toNat, none⟩ (.int .u8 ((ji8) % 256)))) ?hg ?ho ?hn ?hr ?_; (case ho => rfl); (case hg => rfl); (case hn => rfl); (case hr => first | (go_simp; done) | (go_simp; rfl)); intro w14 hw; have hg : wr.grownBy w14 (some go12) := (by rw [hw]; exact HP13.2); have hp_ : Kd.R (Kd.int .u8) 5 w14 w0.heap.size (fun k_ => (P0_ k_ ∨ w.heap.size ≤ k_)) (.slice (some ⟨go12, 0, none⟩) x0_1.length co12) y101 := (by rw [hw, Ny101.out]; exact HP13.1); clear HP13; have n0_ := Aside0.mk (hp_); have n1_ := Aside0.mk ((by rw [hw]; exact below_set (HB.out) GB12.out : Below w0.heap.size w0 w14)); have n2_ := Aside0.mk (Kept.of_grown (S := (fun k_ => P0_ k_)) hg (by repeat (first | (with_reducible first | exact HK.out | apply Kept.alloc | apply Kept.drewN | apply Kept.drew) | exact HK.out)) (fun k_ e_ => (HO_0.out.1 k_ e_))); clear HO_0; clear HB; clear HK; have HO_0 := n0_; have HB := n1_; have HK := n2_; clear n0_ n1_ n2_; clear hg hw hp_))
              go_roundg k1
              case measure => have := HK1.out; omega
              case rel => exact ⟨(y101), (wrap64 (x8_1 + 1)), (by first | rfl | (simp; done) | (simp [*]; done)), H', ⟨by have := HK1.out; omega⟩, ⟨by (with_reducible repeat (first | apply Kd.R_alloc | apply Kd.R_drewN | apply Kd.R_drew)); exact HO_0.out⟩, ⟨by repeat (first | (with_reducible first | exact HK.out | apply Kept.alloc | apply Kept.drewN | apply Kept.drew) | exact HK.out)⟩, ⟨by repeat (first | (with_reducible first | exact HB.out | apply below_alloc | apply pw_below_drewN | apply below_drew1) | exact HB.out)⟩⟩
            · rw [if_neg c11] at H
              exact absurd H (by simp)
          · rw [if_neg c10] at H
            exact absurd H (by simp)
        · rw [if_neg c7] at H
          exact absurd H (by simp)
      · rw [if_neg c5] at H
        have c5b0 : decide (x8_1 < a2) = false := decide_eq_false c5
        clear c5
        obtain rfl := Option.some.inj H
        go_wp2
        first | go_end0 | ((try simp only [Exit.inBlock, Exit.then]); refine bodyPost_ret (results_none rfl _ _ _) rfl ?_)
        exact ⟨by first | rfl | (simp [errW_none, errW_some] <;> rfl) | (simp [*, errW_none, errW_some] <;> rfl), by (with_reducible repeat (first | apply Kd.R_alloc | apply Kd.R_drewN | apply Kd.R_drew)); exact HO_0.out, by repeat (first | (with_reducible first | exact HB.out | apply below_alloc | apply pw_below_drewN | apply below_drew1) | exact HB.out), by repeat (first | (with_reducible first | exact HK.out | apply Kept.alloc | apply Kept.drewN | apply Kept.drew) | exact HK.out)⟩

end Go.Proofs.YtpacjdlgnoiheaaDoor.X
