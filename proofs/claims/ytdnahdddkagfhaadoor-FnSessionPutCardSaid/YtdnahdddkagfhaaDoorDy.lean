/- spec.SessionClr, and two rows joined. -/
import Derived.Test.YtdnahdddkagfhaaDoorMp
import Derived.Test.YtdnahdddkagfhaaDoorTa
import Derived.Test.YtdnahdddkagfhaaDoorGr
import Derived.Test.YtdnahdddkagfhaaDoorTb
namespace Go.Proofs.YtdnahdddkagfhaaDoor.X
open Go.RowKit Go.Proofs.YtdnahdddkagfhaaDoorW.PrintWords Go.Proofs.YtdnahdddkagfhaaDoorW.PrintLast Go.Proofs.YtdnahdddkagfhaaDoorW.PrintMore
attribute [local go_sem] setCell_drewN alloc_drewN
set_option linter.unusedVariables false
set_option linter.unusedSimpArgs false
namespace Ses
theorem packed_loop2 : ∀ (j q : Nat) (x : Int) (acc : List Int), 0 ≤ x → x < 256 ^ j → acc.length + j ≤ 8 →
      ZM.spec_SessionPacked.l0 (q + 7 + j) x acc = some ((((acc ++ Dg.dgF j x).length : Int) % 256) :: (acc ++ Dg.dgF j x).reverse)
  | 0, q, x, acc, h0, h1, h2 => by
    have hx : x = 0 := by simp at h1; omega
    subst hx
    simp only [ZM.spec_SessionPacked.l0, Nat.add_zero]
    rw [if_neg (by omega), if_pos (by omega), rev_small q _ (by rw [List.length_append]; simp; omega)]
    simp [Dg.dgF]
  | j + 1, q, x, acc, h0, h1, h2 => by
    by_cases hx : x = 0
    · subst hx
      rw [show q + 7 + (j + 1) = (q + 1 + j + 6) + 1 by omega]
      simp only [ZM.spec_SessionPacked.l0]
      rw [if_neg (by omega), if_pos (by omega), rev_small (q + 1 + j) _ (by rw [List.length_append]; simp; omega), Dg.dgF_zero]
      simp
    · have hp : (256 : Int) ^ (j + 1) = 256 * 256 ^ j := by rw [Int.pow_succ]; omega
      have d5 := packed_loop2 j q (x / 256) (acc ++ [x % 256]) (by omega) (by rw [hp] at h1; omega) (by rw [List.length_append]; simp; omega)
      rw [show q + 7 + (j + 1) = (q + 7 + j) + 1 by omega]
      simp only [ZM.spec_SessionPacked.l0]
      rw [if_pos (by omega), if_pos (by omega), d5, Dg.dgF, if_neg (by omega)]
      simp
theorem specPacked_f (x : Int) (h0 : 0 ≤ x) (h1 : x < 256 ^ 8) : ZM.spec_SessionPacked.f 15 x = some (Dg.packed x) := by
  unfold ZM.spec_SessionPacked.f
  rw [packed_loop2 8 0 x [] h0 h1 (by simp), List.nil_append]
  have := Dg.dg_len x
  unfold Dg.packed Dg.dg
  unfold Dg.dg at this
  rw [show (((Dg.dgF 8 x).length : Int) % 256) = ((Dg.dgF 8 x).length : Int) by omega]
/-- spec.SessionPacked, of any number. -/
theorem specPacked (x : Int) (h0 : 0 ≤ x) (h1 : x < 18446744073709551616) (w : World) : Calls Tryd.prog 21 #[.int .u64 x] w fun e w' => ∃ v, e = .returned v ∧ Kd.R (Kd.int .u8) 5 w' w.heap.size (fun _ => True) v (Dg.packed x) ∧ Below w.heap.size w w' := by
  have h := ZM.spec_SessionPacked.calls 15 x _ w (specPacked_f x h0 (by omega))
  exact h
theorem lit1 (w : World) (x : Int) (base : Nat) (hb : base ≤ w.heap.size) : Kd.R (Kd.int .u8) 5 (w.alloc (.cells #[.int .u8 x] 5)) base (fun _ => True) (.slice (some ⟨w.heap.size, 0, none⟩) 1 1) [x] := by
  refine Kd.R_of_own ?_ (fun _ _ => trivial)
  have h := World.ownsRow_lit (base := base) (e := 5) (size := 1) w #[.int .u8 x] 1 hb (by decide) rfl
  exact h
end Ses
set_option maxHeartbeats 8000000 in
set_option maxRecDepth 100000 in
/-- spec.SessionClr of bytes that are read. -/
theorem specClr (data : List Int) (A : Option Addr) (cp : Nat) (big : Bool) (c : Nat) (w : World) (hC : Kd.C (Kd.int .u8) w A data.length data) (hle : data.length ≤ cp) (hd2 : data.length ≤ 100000) (hc1 : 1 ≤ c) (hc2 : c ≤ 255) :
    Calls Tryd.prog 34 #[.slice A data.length cp, .bool big, .int .i64 c] w fun e w' => ∃ v, e = .returned v ∧ Kd.R (Kd.int .u8) 5 w' w.heap.size (fun _ => True) v (Dg.clrB big c data) ∧ Below w.heap.size w w' := by
  have inf5 : (Tryd.prog.info? 5).map (fun i => (i.zero, i.size, i.bytes)) = some (some (.int .u8 0), 1, 1) := by kernel_rfl
  by_cases hs : data.length ≤ 252
  · have t0 : decide ((data.length : Int) ≤ 252) = true := decide_eq_true (by omega)
    have tb : IntKind.u8.wrap ((data.length : Nat) : Int) = ((data.length : Nat) : Int) := by simp [IntKind.wrap, IntKind.bits, IntKind.signed]; omega
    have HC := Lib.hid hC
    have HL := Lib.hid (Ses.lit1 w (data.length : Int) w.heap.size (Nat.le_refl _))
    have hclr : Dg.clrB big c data = [(data.length : Int)] ++ data := by unfold Dg.clrB; rw [if_pos hs]; rfl
    have HClr := Lib.hid hclr
    have HB := Lib.hid (below_alloc (Below.refl w.heap.size w) (.cells #[.int .u8 (data.length : Int)] 5))
    clear hC hs hclr
    go_enter Tryd.func34, Tryd.ntmps34
    go_wp2_with (((with_reducible refine gate_builtin (b := .append) (xs := #[.tmp 15, .tmp 16]) rfl ?_); at_builtin; refine Kd.R_append_row (Value.int .u8) (0 : Int) (h1 := fun _ => rfl) (w0 := w) w.heap.size rfl (.tmp 15) (.tmp 16) 22 5 (.int .u8 0) 1 rfl Tryd.underlying22 inf5 rfl (by decide) _ ([(data.length : Int)]) (data) A (data.length) (cp) (fun _ => True) rfl rfl (fun _ _ => trivial) HL.out (Kd.C_below HC.out HB.out) HB.out HB.out.size ?aL ?_; (case aL => simp only [List.length_singleton]; omega); intro v4 w4 ho hb hg hat; have HO4 := Lib.hid ho; have HB4 := Lib.hid hb; clear ho hb hg hat))
    go_ret
    exact ⟨_, rfl, by rw [HClr.out]; exact HO4.out, HB4.out⟩
  · have t0 : decide ((data.length : Int) ≤ 252) = false := decide_eq_false (by omega)
    obtain ⟨gd, od, rfl, -, -⟩ := C_base hC (by omega)
    have HC := Lib.hid hC
    clear hC
    obtain ⟨tot, htot⟩ : ∃ tot, tot = Dg.chunksF big c data.length data := ⟨_, rfl⟩
    have htl : tot.length ≤ 10 * data.length := by rw [htot]; exact Dg.chunksF_len big c hc1 _ _
    have hclr : Dg.clrB big c data = 254 :: (tot ++ [0]) := by unfold Dg.clrB; rw [if_neg hs, htot]
    have HTot := Lib.hid htot
    have HClr := Lib.hid hclr
    have HL := Lib.hid (Ses.lit1 w 254 w.heap.size (Nat.le_refl _))
    have HB := Lib.hid (below_alloc (Below.refl w.heap.size w) (.cells #[.int .u8 254] 5))
    have HPk : Hid (∀ (W : World) (m : Nat), m ≤ 255 → Calls Tryd.prog 21 #[.int .u64 m] W fun e w' => ∃ v, e = .returned v ∧ Kd.R (Kd.int .u8) 5 w' W.heap.size (fun _ => True) v (Dg.packed m) ∧ Below W.heap.size W w') := Lib.hid (fun W m hm => Ses.specPacked m (by omega) (by omega) W)
    have HPl : Hid (∀ m : Nat, (Dg.packed (m : Int)).length ≤ 9) := Lib.hid (fun m => Dg.headB_len true m)
    obtain ⟨n, hn⟩ : ∃ n, n = data.length := ⟨_, rfl⟩
    have HN := Lib.hid hn
    have HCp : Hid (∀ (W : World) (s m : Nat), s + m ≤ n → Below w.heap.size w W → Kd.C (Kd.int .u8) W (some ⟨gd, od + s, none⟩) m ((data.drop s).take m)) := Lib.hid (fun W s m hm hb => by
      have hl : ((data.drop s).take m).length = m := by rw [List.length_take, List.length_drop]; omega
      have h := Ses.C_part (Kd.C_below HC.out hb) s m (by omega)
      rw [hl] at h
      exact h)
    rw [← hn] at t0 hd2 hle htl ⊢
    have hn2 : 252 < n := by omega
    clear htot hclr hn hs HC
    go_enter Tryd.func34, Tryd.ntmps34
    go_wp2
    generalize hw1 : w.alloc (.cells #[.int .u8 254] 5) = w1 at *
    go_loopw [0, 7] (fun v0 v7 wr => ∃ (s k : Nat) (acc : List Int) (x : Nat), v0 = .slice (some ⟨gd, x, none⟩) (n - s) (cp - s) ∧ (s < n → x = od + s) ∧ s ≤ n ∧ Hid (Kd.R (Kd.int .u8) 5 wr w.heap.size (fun _ => True) v7 (254 :: acc)) ∧ Hid (Below w.heap.size w wr) ∧ Hid (acc ++ Dg.chunksF big c k (data.drop s) = tot ∧ n - s ≤ k)) (fun v0 _ _ => match v0 with | .slice _ l _ => l | _ => 0)
    case atStart => exact ⟨0, n, [], od, rfl, fun _ => rfl, by omega, HL, HB, Lib.hid ⟨by rw [List.drop_zero, List.nil_append, HTot.out, HN.out], by omega⟩⟩
    case round =>
      obtain ⟨s, k, acc, x, rfl, hx, hsn, HO, HBr, HA⟩ := hrel
      by_cases hlt : s < n
      · obtain rfl := hx hlt
        clear hx
        have t1 : decide (((n - s : Nat) : Int) > 0) = true := decide_eq_true (by omega)
        have hal : acc.length ≤ 10 * n := by
          have h := congrArg List.length HA.out.1
          rw [List.length_append] at h
          omega
        obtain ⟨k', hk1, hk2⟩ := Dg.chunksF_step big c k s acc data tot (by have := HN.out; omega) hc1 HA.out.1 (by have := HN.out; have := HA.out.2; omega)
        have HK1 := Lib.hid hk1
        have HK2 := Lib.hid hk2
        clear hk1 hk2
        obtain ⟨m, hm⟩ : ∃ m, m = min (n - s) c := ⟨_, rfl⟩
        have hmin : min ((n - s : Nat) : Int) (c : Int) = (m : Int) := by omega
        have hm0 : 0 < m := by omega
        have hms : s + m ≤ n := by omega
        have hmc : m ≤ c := by omega
        have ht : (data.drop s).take c = (data.drop s).take m := by
          by_cases hx : c ≤ n - s
          · rw [show m = c by omega]
          · rw [List.take_of_length_le (by have := HN.out; rw [List.length_drop]; omega), List.take_of_length_le (by have := HN.out; rw [List.length_drop]; omega)]
        have hl : ((data.drop s).take m).length = m := by have := HN.out; rw [List.length_take, List.length_drop]; omega
        have hdr : data.drop (s + c) = data.drop (s + m) := by
          by_cases hx : c ≤ n - s
          · rw [show m = c by omega]
          · rw [List.drop_eq_nil_of_le (by have := HN.out; omega), List.drop_eq_nil_of_le (by have := HN.out; omega)]
        rw [ht, hl, hdr] at HK1
        have HLt := Lib.hid hl
        have HAc := Lib.hid hal
        clear hm ht hl hdr hal
        cases big
        · have tb : IntKind.u8.wrap ((m : Nat) : Int) = ((m : Nat) : Int) := by simp [IntKind.wrap, IntKind.bits, IntKind.signed]; omega
          go_wp2_with (first | ((with_reducible refine gate_builtin (b := .append) (xs := #[.tmp 32, .tmp 35]) rfl ?_); at_builtin; refine Kd.R_append (Kd.int .u8) (w0 := w) w.heap.size rfl (.tmp 32) (.tmp 35) 22 5 (.int .u8 0) 1 rfl Tryd.underlying22 inf5 rfl (by decide) (by decide) u7 (254 :: acc) ((m : Int)) [.int .u8 ((m : Int))] (fun _ => True) (fun _ => False) rfl ?aX ?aP (fun _ hk => hk.elim) (fun _ _ => trivial) ?aO ?aB ?aS ?aL ?_; (case aX => exact rfl); (case aP => exact rfl); (case aO => exact HO.out); (case aB => exact HBr.out); (case aS => exact HBr.out.size); (case aL => (have := HAc.out); simp only [List.length_cons]; omega); intro v5 w5 ho hb hg hat; have HO5 := Lib.hid ho; have HB5 := Lib.hid hb; clear ho hb hg hat) | ((with_reducible refine gate_builtin (b := .append) (xs := #[.tmp 37, .tmp 40]) rfl ?_); at_builtin; refine Kd.R_append_row (Value.int .u8) (0 : Int) (h1 := fun _ => rfl) (w0 := w) w.heap.size rfl (.tmp 37) (.tmp 40) 22 5 (.int .u8 0) 1 rfl Tryd.underlying22 inf5 rfl (by decide) v5 (254 :: acc ++ [(m : Int)]) ((data.drop s).take m) (some ⟨gd, od + s, none⟩) (m) (cp - s) (fun _ => True) rfl rfl (fun _ _ => trivial) HO5.out (HCp.out _ s m hms HB5.out) HB5.out HB5.out.size ?aL ?_; (case aL => (have := HAc.out); simp only [List.length_cons, List.length_append, List.length_nil]; omega); intro v6 w6 ho hb hg hat; have HO6 := Lib.hid ho; have HB6 := Lib.hid hb; clear ho hb hg hat))
          go_roundw
          case measure => simp only []; omega
          case rel =>
            have hR := HO6.out
            simp only [List.append_assoc, List.cons_append, List.singleton_append, List.nil_append] at hR
            refine ⟨s + m, k', acc ++ Dg.headB false m ++ (data.drop s).take m, if cp - s = m then od + s else od + (s + m), by split <;> simp only [Nat.add_assoc, Nat.sub_sub], fun hx => if_neg (by omega), by omega, Lib.hid ?_, HB6, Lib.hid ⟨HK1.out, by have := HK2.out; have := HN.out; omega⟩⟩
            simp only [List.append_assoc, List.cons_append, List.singleton_append, List.nil_append]
            exact hR
        · have tb : IntKind.u64.wrap ((m : Nat) : Int) = ((m : Nat) : Int) := (IntKind.wrap_u64 _).trans (by omega)
          go_wp2_with (first | (go_at_call 21; (with_reducible refine (HPk.out _ m (by omega)).mono ?_); rintro e w4 ⟨v4, rfl, hR4, hb4⟩; obtain ⟨A4, c4, rfl, hle4, hC4, -, -⟩ := Ses.R_slots hR4; have HC4 := Lib.hid hC4; have HB4 := Lib.hid (HBr.out.trans (hb4.mono HBr.out.size)); have HO4 := Lib.hid (Kd.R_below HO.out hb4); clear hR4 hC4 hb4) | ((with_reducible refine gate_builtin (b := .append) (xs := #[.tmp 27, .tmp 30]) rfl ?_); at_builtin; refine Kd.R_append_row (Value.int .u8) (0 : Int) (h1 := fun _ => rfl) (w0 := w) w.heap.size rfl (.tmp 27) (.tmp 30) 22 5 (.int .u8 0) 1 rfl Tryd.underlying22 inf5 rfl (by decide) u7 (254 :: acc) (Dg.packed (m : Int)) A4 ((Dg.packed (m : Int)).length) (c4) (fun _ => True) rfl rfl (fun _ _ => trivial) HO4.out HC4.out HB4.out HB4.out.size ?aL ?_; (case aL => (have := HAc.out); (have := HPl.out m); simp only [List.length_cons]; omega); intro v5 w5 ho hb hg hat; have HO5 := Lib.hid ho; have HB5 := Lib.hid hb; clear ho hb hg hat) | ((with_reducible refine gate_builtin (b := .append) (xs := #[.tmp 37, .tmp 40]) rfl ?_); at_builtin; refine Kd.R_append_row (Value.int .u8) (0 : Int) (h1 := fun _ => rfl) (w0 := w) w.heap.size rfl (.tmp 37) (.tmp 40) 22 5 (.int .u8 0) 1 rfl Tryd.underlying22 inf5 rfl (by decide) v5 (254 :: acc ++ Dg.packed (m : Int)) ((data.drop s).take m) (some ⟨gd, od + s, none⟩) (m) (cp - s) (fun _ => True) rfl rfl (fun _ _ => trivial) HO5.out (HCp.out _ s m hms HB5.out) HB5.out HB5.out.size ?aL ?_; (case aL => (have := HAc.out); (have := HPl.out m); simp only [List.length_cons, List.length_append]; omega); intro v6 w6 ho hb hg hat; have HO6 := Lib.hid ho; have HB6 := Lib.hid hb; clear ho hb hg hat))
          go_roundw
          case measure => simp only []; omega
          case rel =>
            have hR := HO6.out
            simp only [List.append_assoc, List.cons_append, List.singleton_append, List.nil_append] at hR
            refine ⟨s + m, k', acc ++ Dg.headB true m ++ (data.drop s).take m, if cp - s = m then od + s else od + (s + m), by split <;> simp only [Nat.add_assoc, Nat.sub_sub], fun hx => if_neg (by omega), by omega, Lib.hid ?_, HB6, Lib.hid ⟨HK1.out, by have := HK2.out; have := HN.out; omega⟩⟩
            simp only [List.append_assoc, List.cons_append, List.singleton_append, List.nil_append]
            exact hR
      · have hsn' : s = n := by omega
        subst hsn'
        have t1 : decide (((s - s : Nat) : Int) > 0) = false := decide_eq_false (by omega)
        have hacc : acc = tot := by
          have := HA.out.1
          rw [List.drop_eq_nil_of_le (by have := HN.out; omega), Dg.chunksF_nil, List.append_nil] at this
          exact this
        subst hacc
        go_wp2_with (((with_reducible refine gate_builtin (b := .append) (xs := #[.tmp 45, .tmp 46]) rfl ?_); at_builtin; refine Kd.R_append (Kd.int .u8) (w0 := w) w.heap.size rfl (.tmp 45) (.tmp 46) 22 5 (.int .u8 0) 1 rfl Tryd.underlying22 inf5 rfl (by decide) (by decide) u7 (254 :: acc) (0) [.int .u8 (0)] (fun _ => True) (fun _ => False) rfl ?aX ?aP (fun _ hk => hk.elim) (fun _ _ => trivial) ?aO ?aB ?aS ?aL ?_; (case aX => exact rfl); (case aP => exact rfl); (case aO => exact HO.out); (case aB => exact HBr.out); (case aS => exact HBr.out.size); (case aL => simp only [List.length_cons]; omega); intro v5 w5 ho hb hg hat; have HO5 := Lib.hid ho; have HB5 := Lib.hid hb; clear ho hb hg hat))
        go_ret
        exact ⟨_, rfl, by rw [HClr.out]; exact HO5.out, HB5.out⟩
set_option maxHeartbeats 4000000 in
set_option maxRecDepth 100000 in
/-- Two rows, one behind the other. -/
theorem concat2 (w : World) (g0 : Nat) (A0 A1 : Option Addr) (c0 c1 : Nat) (l0 l1 : List Int) (s0 : w.cell? ⟨g0, 0, none⟩ = some (.slice A0 l0.length c0)) (s1 : w.cell? ⟨g0, 1, none⟩ = some (.slice A1 l1.length c1))
    (h0 : Kd.C (Kd.int .u8) w A0 l0.length l0) (h1 : Kd.C (Kd.int .u8) w A1 l1.length l1) (hp : 0 < l0.length) (hm : l0.length + l1.length ≤ 1000000) :
    Calls Tryd.prog 35 #[.slice (some ⟨g0, 0, none⟩) 2 2] w fun e w' => ∃ v, e = .returned v ∧ Kd.R (Kd.int .u8) 5 w' w.heap.size (fun _ => True) v (l0 ++ l1) ∧ Below w.heap.size w w' := by
  have inf5 : (Tryd.prog.info? 5).map (fun i => (i.zero, i.size, i.bytes)) = some (some (.int .u8 0), 1, 1) := by kernel_rfl
  have HC0 := Lib.hid h0
  have HC1 := Lib.hid h1
  have HGn := Lib.hid (fun W => growNil (l0.length + l1.length) (by omega) (by omega) W)
  clear h0 h1
  obtain ⟨n0, hn0⟩ : ∃ n, n = l0.length := ⟨_, rfl⟩
  obtain ⟨n1, hn1⟩ : ∃ n, n = l1.length := ⟨_, rfl⟩
  rw [← hn0] at s0 HC0 HGn hp hm
  rw [← hn1] at s1 HC1 HGn hm
  have HN0 := Lib.hid hn0
  have HN1 := Lib.hid hn1
  have hgn := HGn.out
  simp only [Int.natCast_add] at hgn
  have HGm := Lib.hid hgn
  clear hn0 hn1 hgn HGn
  go_enter Tryd.func35, Tryd.ntmps35
  go_wp2
  go_loop [3, 11] (fun v3 v11 => (v11 = .int .i64 0 ∧ v3 = .int .i64 0) ∨ (v11 = .int .i64 1 ∧ v3 = .int .i64 ((n0 : Nat) : Int)) ∨ (v11 = .int .i64 2 ∧ v3 = .int .i64 ((n0 + n1 : Nat) : Int))) (fun _ v11 => 2 - (intOf v11).toNat)
  case atStart => exact .inl ⟨rfl, rfl⟩
  case round =>
    rcases hrel with ⟨rfl, rfl⟩ | ⟨rfl, rfl⟩ | ⟨rfl, rfl⟩
    · have d0 : decide ((n0 : Int) < 0) = false := decide_eq_false (by omega)
      go_wp2
      go_round
      case rel => exact .inr (.inl ⟨rfl, by go_num⟩)
      case measure => simp [intOf]
    · have d0 : decide ((n0 : Int) + (n1 : Int) < 0) = false := decide_eq_false (by omega)
      go_wp2
      go_round
      case rel => exact .inr (.inr ⟨rfl, by go_num⟩)
      case measure => simp [intOf]
    · go_wp2_with (go_at_call 54; (with_reducible refine (HGm.out _).mono ?_); rintro e w1 ⟨g, cap, rfl, hR, hb⟩; have HR := Lib.hid hR; have HB := Lib.hid hb; clear hR hb)
      go_loopw [6, 27] (fun v6 v27 wr => (v27 = .int .i64 0 ∧ Hid (Kd.R (Kd.int .u8) 5 wr w.heap.size (fun _ => True) v6 ([])) ∧ Hid (Below w.heap.size w wr)) ∨ (v27 = .int .i64 1 ∧ Hid (Kd.R (Kd.int .u8) 5 wr w.heap.size (fun _ => True) v6 ([] ++ l0)) ∧ Hid (Below w.heap.size w wr)) ∨ (v27 = .int .i64 2 ∧ Hid (Kd.R (Kd.int .u8) 5 wr w.heap.size (fun _ => True) v6 ([] ++ l0 ++ l1)) ∧ Hid (Below w.heap.size w wr))) (fun _ v27 _ => 2 - (intOf v27).toNat)
      case atStart => exact .inl ⟨rfl, HR, HB⟩
      case round =>
        rcases hrel with ⟨rfl, HO, HBr⟩ | ⟨rfl, HO, HBr⟩ | ⟨rfl, HO, HBr⟩
        · have q0 := bl_cell HBr.out s0
          go_wp2_with ((with_reducible refine gate_builtin (b := .append) (xs := #[.tmp 31, .tmp 32]) rfl ?_); at_builtin; refine Kd.R_append_row (Value.int .u8) (0 : Int) (h1 := fun _ => rfl) (w0 := w) w.heap.size rfl (.tmp 31) (.tmp 32) 22 5 (.int .u8 0) 1 rfl Tryd.underlying22 inf5 rfl (by decide) u6 ([]) l0 A0 n0 c0 (fun _ => True) rfl rfl (fun _ _ => trivial) HO.out (Kd.C_below HC0.out HBr.out) HBr.out HBr.out.size ?aL ?_; (case aL => have := HN0.out; have := HN1.out; simp only [List.length_nil, List.length_append]; omega); intro v7 w7 ho hb hg hat; have HO7 := Lib.hid ho; have HB7 := Lib.hid hb; clear ho hb hg hat)
          go_roundw
          case rel => exact .inr (.inl ⟨rfl, HO7, HB7⟩)
          case measure => simp [intOf]
        · have q0 := bl_cell HBr.out s1
          go_wp2_with ((with_reducible refine gate_builtin (b := .append) (xs := #[.tmp 31, .tmp 32]) rfl ?_); at_builtin; refine Kd.R_append_row (Value.int .u8) (0 : Int) (h1 := fun _ => rfl) (w0 := w) w.heap.size rfl (.tmp 31) (.tmp 32) 22 5 (.int .u8 0) 1 rfl Tryd.underlying22 inf5 rfl (by decide) u6 ([] ++ l0) l1 A1 n1 c1 (fun _ => True) rfl rfl (fun _ _ => trivial) HO.out (Kd.C_below HC1.out HBr.out) HBr.out HBr.out.size ?aL ?_; (case aL => have := HN0.out; have := HN1.out; simp only [List.length_nil, List.length_append]; omega); intro v7 w7 ho hb hg hat; have HO7 := Lib.hid ho; have HB7 := Lib.hid hb; clear ho hb hg hat)
          go_roundw
          case rel => exact .inr (.inr ⟨rfl, HO7, HB7⟩)
          case measure => simp [intOf]
        · go_wp2
          go_ret
          exact ⟨_, rfl, HO.out, HBr.out⟩
end Go.Proofs.YtdnahdddkagfhaaDoor.X
