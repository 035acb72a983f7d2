/- sessionGets: the steps that read parts. -/
import Derived.Test.YtdnahdddkagfhaaDoorSj
namespace Go.Proofs.YtdnahdddkagfhaaDoor.X
open Go.RowKit Go.Proofs.YtdnahdddkagfhaaDoorW.PrintWords Go.Proofs.YtdnahdddkagfhaaDoorW.PrintMore
attribute [local go_sem] setCell_drewN alloc_drewN
set_option linter.unusedVariables false
set_option linter.unusedSimpArgs false
namespace Ses
/-- The step that reads a part. -/
def gsOf (p : SP) : GS :=
  if p.kind % 6 = 0 then ⟨1, p.data.length, false, false⟩
  else if p.kind % 6 = 1 then ⟨2, 0, false, false⟩
  else if p.kind % 6 = 2 ∨ p.kind % 6 = 3 then ⟨4, szOf p.size, p.big, p.comp && (decide (p.kind % 6 = 2) || decide (1 < szOf p.size))⟩
  else if p.kind % 6 = 4 then ⟨6, 0, false, false⟩
  else ⟨8, 0, false, false⟩
theorem gs_make {w : World} {base : Nat} {ok : Nat → Prop} (k s : Int) (b c : Bool) : gsKd.M w base ok ⟨k, s, b, c⟩ [.int .i64 k, .int .i64 s, .bool b, .bool c] :=
  ⟨[_], _, rfl, rfl, [_], _, rfl, rfl, [_], _, rfl, rfl, rfl⟩
theorem get_lt {α : Type} {l : List α} {j : Nat} {p : α} (h : l[j]? = some p) : j < l.length := (List.getElem?_eq_some_iff.1 h).1
theorem get_eq {α : Type} {l : List α} {j : Nat} {p : α} (h : l[j]? = some p) : l[j]'(get_lt h) = p := (List.getElem?_eq_some_iff.1 h).2
theorem szOf_r (s : Int) : 1 ≤ szOf s ∧ szOf s ≤ 8 := by
  unfold szOf
  split
  · omega
  · split
    · omega
    · split <;> omega
end Ses
set_option maxHeartbeats 16000000 in
set_option maxRecDepth 100000 in
theorem sessionGets_ok (ps : List Ses.SP) (A : Option Addr) (cA : Nat) (w : World) (hC : Ses.spKd.C w A ps.length ps) (ok : ∀ p ∈ ps, Ses.SPok p) (hn : ps.length ≤ 20) :
    Calls Tryd.prog 27 #[.slice A ps.length cA] w fun e w' => ∃ v, e = .returned v ∧ Ses.gsKd.R 35 w' w.heap.size (fun _ => True) v (ps.map Ses.gsOf) ∧ Below w.heap.size w w' := by
  have infG : (Tryd.prog.info? 35).map (fun i => (i.zero, i.size, i.bytes)) = some (some (.agg #[.int .i64 0, .int .i64 0, .bool false, .bool false]), 4, 24) := by kernel_rfl
  have HC := Lib.hid hC
  have HOk := Lib.hid ok
  obtain ⟨n, hnl⟩ : ∃ n, n = ps.length := ⟨_, rfl⟩
  have HN := Lib.hid hnl
  rw [← hnl] at hn ⊢
  clear hC ok hnl
  go_enter Tryd.func27, Tryd.ntmps27
  go_wp2
  go_loopw [3, 10] (fun v3 v10 wr => ∃ (j : Nat) (rs : List Ses.GS), v10 = .int .i64 j ∧ j ≤ n ∧ Hid (Ses.gsKd.R 35 wr w.heap.size (fun _ => True) v3 rs) ∧ Hid (Below w.heap.size w wr) ∧ Hid (rs.length = j) ∧ Hid (rs = (ps.take j).map Ses.gsOf)) (fun _ v10 _ => n - (intOf v10).toNat)
  case atStart => exact ⟨0, [], rfl, Nat.zero_le _, Lib.hid (Kd.R_nil _ _ _ _ _), Lib.hid (Below.refl _ _), Lib.hid rfl, Lib.hid (by rw [List.take_zero]; rfl)⟩
  case round =>
    obtain ⟨j, rs, rfl, hj, HRow, HB, HL, HE⟩ := hrel
    by_cases hlt : j < n
    · have hjl : j < ps.length := by rw [← HN.out]; exact hlt
      have t2 : decide ((j : Int) < (n : Int)) = true := decide_eq_true (by omega)
      obtain ⟨p, hp⟩ : ∃ p, ps[j]? = some p := ⟨_, List.getElem?_eq_getElem hjl⟩
      obtain ⟨g0, o0, rfl, -, hel0⟩ := Kd.C_head HC.out (by decide) (by omega)
      obtain ⟨cl0, -, hK0, hcell0⟩ := hel0 j p hp
      obtain ⟨A1, c1, A2, c2, rfl, hle1, hle2, hA1, hA2⟩ := Ses.sp_open hK0
      have hcell : ∀ i u, _ → wr.cell? ⟨g0, o0 + j * 8 + i, none⟩ = some u := fun i u h => bl_cell HB.out (hcell0 i u h)
      obtain ⟨kd, size, num, pb, pc, flag, data, other⟩ := p
      simp only at hA1 hA2 hle1 hle2 hcell
      have s0 : wr.cell? ⟨g0, o0 + j * 8, none⟩ = some (.int .u8 kd) := hcell 0 _ rfl
      have s1 : wr.cell? ⟨g0, o0 + j * 8 + 1, none⟩ = some (.int .u8 size) := hcell 1 _ rfl
      have s2 : wr.cell? ⟨g0, o0 + j * 8 + 2, none⟩ = some (.int .u64 num) := hcell 2 _ rfl
      have s3 : wr.cell? ⟨g0, o0 + j * 8 + 3, none⟩ = some (.bool pb) := hcell 3 _ rfl
      have s4 : wr.cell? ⟨g0, o0 + j * 8 + 4, none⟩ = some (.bool pc) := hcell 4 _ rfl
      have s5 : wr.cell? ⟨g0, o0 + j * 8 + 5, none⟩ = some (.int .u8 flag) := hcell 5 _ rfl
      have s6 : wr.cell? ⟨g0, o0 + j * 8 + 6, none⟩ = some (.slice A1 data.length c1) := hcell 6 _ rfl
      have s7 : wr.cell? ⟨g0, o0 + j * 8 + 7, none⟩ = some (.slice A2 other.length c2) := hcell 7 _ rfl
      have HP := Lib.hid hp
      obtain ⟨k0, k1, z0', z1', n0, n1, hd1, hd2⟩ := HOk.out _ (List.mem_of_getElem? hp)
      simp only at k0 k1 z0' z1' n0 n1 hd1 hd2
      obtain ⟨nd, hnd⟩ : ∃ nd, nd = data.length := ⟨_, rfl⟩
      obtain ⟨no, hno⟩ : ∃ no, no = other.length := ⟨_, rfl⟩
      rw [← hnd] at s6 hle1 hd1
      rw [← hno] at s7 hle2 hd2
      have HNd := Lib.hid hnd
      clear hp hel0 hK0 hcell hcell0 hA1 hA2 hjl hnd hno
      have HSz := Lib.hid (fun W => sessionSize_ok kd size num flag pb pc (.slice A1 nd c1) (.slice A2 no c2) A1 A2 nd c1 no c2 rfl rfl W ⟨k0, k1⟩ ⟨z0', z1'⟩ ⟨n0, n1⟩)
      obtain ⟨sz, hsz⟩ : ∃ sz, sz = Ses.szOf size := ⟨_, rfl⟩
      obtain ⟨nm, hnm⟩ : ∃ nm, nm = Ses.numOf kd size num := ⟨_, rfl⟩
      rw [← hsz, ← hnm] at HSz
      have hsr := Ses.szOf_r size
      rw [← hsz] at hsr
      have HSv : Hid (Ses.szOf size = sz) := Lib.hid hsz.symm
      clear hsz hnm
      have hm6 : kd % 6 = 0 ∨ kd % 6 = 1 ∨ kd % 6 = 2 ∨ kd % 6 = 3 ∨ kd % 6 = 4 ∨ kd % 6 = 5 := by omega
      have hws : IntKind.i64.wrap sz = sz := (IntKind.wrap_i64 _).trans (by omega)
      rcases hm6 with hm | hm | hm | hm | hm | hm
      · have t0k : decide (kd % 6 = 0) = true := decide_eq_true (by omega)
        have t1k : decide (kd % 6 = 1) = false := decide_eq_false (by omega)
        have t2k : decide (kd % 6 = 2) = false := decide_eq_false (by omega)
        have t3k : decide (kd % 6 = 3) = false := decide_eq_false (by omega)
        have t4k : decide (kd % 6 = 4) = false := decide_eq_false (by omega)
        have t5k : decide (kd % 6 = 5) = false := decide_eq_false (by omega)
        go_wp2_with (first
          | (go_at_call 53; (with_reducible refine (HSz.out _).mono ?_); rintro e w5 ⟨rfl, hb5⟩; have hq0 : (wr.alloc (.cells #[.int .u8 kd, .int .u8 size, .int .u64 num, .bool pb, .bool pc, .int .u8 flag, .slice A1 nd c1, .slice A2 no c2] 70)).heap[wr.heap.size]? = some (.cells #[.int .u8 kd, .int .u8 size, .int .u64 num, .bool pb, .bool pc, .int .u8 flag, .slice A1 nd c1, .slice A2 no c2] 70 (0, 0)) := xb_new _ _; have kq0 := blk_bl hq0 hb5 (xb_lt hq0); have q0 : w5.cell? ⟨wr.heap.size, 0, none⟩ = some (.int .u8 kd) := xb_cell kq0 0; have q3 : w5.cell? ⟨wr.heap.size, 3, none⟩ = some (.bool pb) := xb_cell kq0 3; have q4 : w5.cell? ⟨wr.heap.size, 4, none⟩ = some (.bool pc) := xb_cell kq0 4; have q6 : w5.cell? ⟨wr.heap.size, 6, none⟩ = some (.slice A1 nd c1) := xb_cell kq0 6; have HW : Hid (Below wr.heap.size wr w5) := Lib.hid ((below_alloc (Below.refl _ _) _).trans (hb5.mono (by rw [World.size_alloc]; omega))); clear hq0 kq0 hb5)
          | ((with_reducible refine gate_builtin (b := .append) (xs := #[.tmp 24, .tmp 29]) rfl ?_); at_builtin; refine Kd.R_append Ses.gsKd (w0 := w) w.heap.size rfl (.tmp 24) (.tmp 29) 36 35 _ 24 rfl Tryd.underlying36 infG rfl (by decide) (by decide) u3 rs ⟨1, (nd : Int), false, false⟩ [.int .i64 1, .int .i64 (nd : Int), .bool false, .bool false] (fun _ => True) (fun k => False) ?aV ?aX ?aP ?aK (fun _ _ => trivial) ?aO ?aB ?aS ?aL ?_; (case aV => exact rfl); (case aX => first | exact rfl | (simp only [World.size_alloc, World.size_setCell]; exact rfl)); (case aP => exact Ses.gs_make _ _ _ _); (case aK => exact fun k hk => absurd hk id); (case aO => exact Kd.R_below HRow.out HW.out); (case aB => exact HB.out.trans (HW.out.mono HB.out.size)); (case aS => exact (HB.out.trans (HW.out.mono HB.out.size)).size); (case aL => (rw [HL.out]; omega)); intro v10 w10 ho hb hg hat; have HO10 := Lib.hid ho; have HB10 := Lib.hid hb; clear ho hb hg hat))
        go_roundw
        case measure => simp [intOf]; omega
        case rel =>
          refine ⟨j + 1, rs ++ [⟨1, (nd : Int), false, false⟩], by go_num, by omega, HO10, HB10, Lib.hid (by rw [List.length_append, HL.out]; rfl), Lib.hid ?_⟩
          rw [HE.out, List.take_succ_eq_append_getElem (Ses.get_lt HP.out), List.map_append]
          refine congrArg _ ?_
          rw [List.map_cons, List.map_nil, Ses.get_eq HP.out]
          refine congrArg (fun x => [x]) ?_
          show _ = Ses.gsOf ⟨kd, size, num, pb, pc, flag, data, other⟩
          unfold Ses.gsOf
          rw [if_pos hm, HNd.out]
      · have t0k : decide (kd % 6 = 0) = false := decide_eq_false (by omega)
        have t1k : decide (kd % 6 = 1) = true := decide_eq_true (by omega)
        have t2k : decide (kd % 6 = 2) = false := decide_eq_false (by omega)
        have t3k : decide (kd % 6 = 3) = false := decide_eq_false (by omega)
        have t4k : decide (kd % 6 = 4) = false := decide_eq_false (by omega)
        have t5k : decide (kd % 6 = 5) = false := decide_eq_false (by omega)
        go_wp2_with (first
          | (go_at_call 53; (with_reducible refine (HSz.out _).mono ?_); rintro e w5 ⟨rfl, hb5⟩; have hq0 : (wr.alloc (.cells #[.int .u8 kd, .int .u8 size, .int .u64 num, .bool pb, .bool pc, .int .u8 flag, .slice A1 nd c1, .slice A2 no c2] 70)).heap[wr.heap.size]? = some (.cells #[.int .u8 kd, .int .u8 size, .int .u64 num, .bool pb, .bool pc, .int .u8 flag, .slice A1 nd c1, .slice A2 no c2] 70 (0, 0)) := xb_new _ _; have kq0 := blk_bl hq0 hb5 (xb_lt hq0); have q0 : w5.cell? ⟨wr.heap.size, 0, none⟩ = some (.int .u8 kd) := xb_cell kq0 0; have q3 : w5.cell? ⟨wr.heap.size, 3, none⟩ = some (.bool pb) := xb_cell kq0 3; have q4 : w5.cell? ⟨wr.heap.size, 4, none⟩ = some (.bool pc) := xb_cell kq0 4; have q6 : w5.cell? ⟨wr.heap.size, 6, none⟩ = some (.slice A1 nd c1) := xb_cell kq0 6; have HW : Hid (Below wr.heap.size wr w5) := Lib.hid ((below_alloc (Below.refl _ _) _).trans (hb5.mono (by rw [World.size_alloc]; omega))); clear hq0 kq0 hb5)
          | ((with_reducible refine gate_builtin (b := .append) (xs := #[.tmp 33, .tmp 35]) rfl ?_); at_builtin; refine Kd.R_append Ses.gsKd (w0 := w) w.heap.size rfl (.tmp 33) (.tmp 35) 36 35 _ 24 rfl Tryd.underlying36 infG rfl (by decide) (by decide) u3 rs ⟨2, 0, false, false⟩ [.int .i64 2, .int .i64 0, .bool false, .bool false] (fun _ => True) (fun k => False) ?aV ?aX ?aP ?aK (fun _ _ => trivial) ?aO ?aB ?aS ?aL ?_; (case aV => exact rfl); (case aX => first | exact rfl | (simp only [World.size_alloc, World.size_setCell]; exact rfl)); (case aP => exact Ses.gs_make _ _ _ _); (case aK => exact fun k hk => absurd hk id); (case aO => exact Kd.R_below HRow.out HW.out); (case aB => exact HB.out.trans (HW.out.mono HB.out.size)); (case aS => exact (HB.out.trans (HW.out.mono HB.out.size)).size); (case aL => (rw [HL.out]; omega)); intro v10 w10 ho hb hg hat; have HO10 := Lib.hid ho; have HB10 := Lib.hid hb; clear ho hb hg hat))
        go_roundw
        case measure => simp [intOf]; omega
        case rel =>
          refine ⟨j + 1, rs ++ [⟨2, 0, false, false⟩], by go_num, by omega, HO10, HB10, Lib.hid (by rw [List.length_append, HL.out]; rfl), Lib.hid ?_⟩
          rw [HE.out, List.take_succ_eq_append_getElem (Ses.get_lt HP.out), List.map_append]
          refine congrArg _ ?_
          rw [List.map_cons, List.map_nil, Ses.get_eq HP.out]
          refine congrArg (fun x => [x]) ?_
          show _ = Ses.gsOf ⟨kd, size, num, pb, pc, flag, data, other⟩
          unfold Ses.gsOf
          rw [if_neg (by simp only; omega), if_pos hm]
      · have t0k : decide (kd % 6 = 0) = false := decide_eq_false (by omega)
        have t1k : decide (kd % 6 = 1) = false := decide_eq_false (by omega)
        have t2k : decide (kd % 6 = 2) = true := decide_eq_true (by omega)
        have t3k : decide (kd % 6 = 3) = false := decide_eq_false (by omega)
        have t4k : decide (kd % 6 = 4) = false := decide_eq_false (by omega)
        have t5k : decide (kd % 6 = 5) = false := decide_eq_false (by omega)
        cases pc with
        | false =>
          go_wp2_with (first
            | (go_at_call 53; (with_reducible refine (HSz.out _).mono ?_); rintro e w5 ⟨rfl, hb5⟩; have hq0 : (wr.alloc (.cells #[.int .u8 kd, .int .u8 size, .int .u64 num, .bool pb, .bool false, .int .u8 flag, .slice A1 nd c1, .slice A2 no c2] 70)).heap[wr.heap.size]? = some (.cells #[.int .u8 kd, .int .u8 size, .int .u64 num, .bool pb, .bool false, .int .u8 flag, .slice A1 nd c1, .slice A2 no c2] 70 (0, 0)) := xb_new _ _; have kq0 := blk_bl hq0 hb5 (xb_lt hq0); have q0 : w5.cell? ⟨wr.heap.size, 0, none⟩ = some (.int .u8 kd) := xb_cell kq0 0; have q3 : w5.cell? ⟨wr.heap.size, 3, none⟩ = some (.bool pb) := xb_cell kq0 3; have q4 : w5.cell? ⟨wr.heap.size, 4, none⟩ = some (.bool false) := xb_cell kq0 4; have q6 : w5.cell? ⟨wr.heap.size, 6, none⟩ = some (.slice A1 nd c1) := xb_cell kq0 6; have HW : Hid (Below wr.heap.size wr w5) := Lib.hid ((below_alloc (Below.refl _ _) _).trans (hb5.mono (by rw [World.size_alloc]; omega))); clear hq0 kq0 hb5)
            | ((with_reducible refine gate_builtin (b := .append) (xs := #[.tmp 40, .tmp 58]) rfl ?_); at_builtin; refine Kd.R_append Ses.gsKd (w0 := w) w.heap.size rfl (.tmp 40) (.tmp 58) 36 35 _ 24 rfl Tryd.underlying36 infG rfl (by decide) (by decide) u3 rs ⟨4, sz, pb, false⟩ [.int .i64 4, .int .i64 sz, .bool pb, .bool false] (fun _ => True) (fun k => False) ?aV ?aX ?aP ?aK (fun _ _ => trivial) ?aO ?aB ?aS ?aL ?_; (case aV => exact rfl); (case aX => first | exact rfl | (simp only [World.size_alloc, World.size_setCell]; exact rfl)); (case aP => exact Ses.gs_make _ _ _ _); (case aK => exact fun k hk => absurd hk id); (case aO => exact Kd.R_below HRow.out HW.out); (case aB => exact HB.out.trans (HW.out.mono HB.out.size)); (case aS => exact (HB.out.trans (HW.out.mono HB.out.size)).size); (case aL => (rw [HL.out]; omega)); intro v10 w10 ho hb hg hat; have HO10 := Lib.hid ho; have HB10 := Lib.hid hb; clear ho hb hg hat))
          go_roundw
          case measure => simp [intOf]; omega
          case rel =>
            refine ⟨j + 1, rs ++ [⟨4, sz, pb, false⟩], by go_num, by omega, HO10, HB10, Lib.hid (by rw [List.length_append, HL.out]; rfl), Lib.hid ?_⟩
            rw [HE.out, List.take_succ_eq_append_getElem (Ses.get_lt HP.out), List.map_append]
            refine congrArg _ ?_
            rw [List.map_cons, List.map_nil, Ses.get_eq HP.out]
            refine congrArg (fun x => [x]) ?_
            show _ = Ses.gsOf ⟨kd, size, num, pb, false, flag, data, other⟩
            unfold Ses.gsOf
            rw [if_neg (by simp only; omega), if_neg (by simp only; omega), if_pos (by simp only; omega), HSv.out]
            simp
        | true =>
          go_wp2_with (first
            | (go_at_call 53; (with_reducible refine (HSz.out _).mono ?_); rintro e w5 ⟨rfl, hb5⟩; have hq0 : (wr.alloc (.cells #[.int .u8 kd, .int .u8 size, .int .u64 num, .bool pb, .bool true, .int .u8 flag, .slice A1 nd c1, .slice A2 no c2] 70)).heap[wr.heap.size]? = some (.cells #[.int .u8 kd, .int .u8 size, .int .u64 num, .bool pb, .bool true, .int .u8 flag, .slice A1 nd c1, .slice A2 no c2] 70 (0, 0)) := xb_new _ _; have kq0 := blk_bl hq0 hb5 (xb_lt hq0); have q0 : w5.cell? ⟨wr.heap.size, 0, none⟩ = some (.int .u8 kd) := xb_cell kq0 0; have q3 : w5.cell? ⟨wr.heap.size, 3, none⟩ = some (.bool pb) := xb_cell kq0 3; have q4 : w5.cell? ⟨wr.heap.size, 4, none⟩ = some (.bool true) := xb_cell kq0 4; have q6 : w5.cell? ⟨wr.heap.size, 6, none⟩ = some (.slice A1 nd c1) := xb_cell kq0 6; have HW : Hid (Below wr.heap.size wr w5) := Lib.hid ((below_alloc (Below.refl _ _) _).trans (hb5.mono (by rw [World.size_alloc]; omega))); clear hq0 kq0 hb5)
            | ((with_reducible refine gate_builtin (b := .append) (xs := #[.tmp 40, .tmp 58]) rfl ?_); at_builtin; refine Kd.R_append Ses.gsKd (w0 := w) w.heap.size rfl (.tmp 40) (.tmp 58) 36 35 _ 24 rfl Tryd.underlying36 infG rfl (by decide) (by decide) u3 rs ⟨4, sz, pb, true⟩ [.int .i64 4, .int .i64 sz, .bool pb, .bool true] (fun _ => True) (fun k => False) ?aV ?aX ?aP ?aK (fun _ _ => trivial) ?aO ?aB ?aS ?aL ?_; (case aV => exact rfl); (case aX => first | exact rfl | (simp only [World.size_alloc, World.size_setCell]; exact rfl)); (case aP => exact Ses.gs_make _ _ _ _); (case aK => exact fun k hk => absurd hk id); (case aO => exact Kd.R_below HRow.out HW.out); (case aB => exact HB.out.trans (HW.out.mono HB.out.size)); (case aS => exact (HB.out.trans (HW.out.mono HB.out.size)).size); (case aL => (rw [HL.out]; omega)); intro v10 w10 ho hb hg hat; have HO10 := Lib.hid ho; have HB10 := Lib.hid hb; clear ho hb hg hat))
          go_roundw
          case measure => simp [intOf]; omega
          case rel =>
            refine ⟨j + 1, rs ++ [⟨4, sz, pb, true⟩], by go_num, by omega, HO10, HB10, Lib.hid (by rw [List.length_append, HL.out]; rfl), Lib.hid ?_⟩
            rw [HE.out, List.take_succ_eq_append_getElem (Ses.get_lt HP.out), List.map_append]
            refine congrArg _ ?_
            rw [List.map_cons, List.map_nil, Ses.get_eq HP.out]
            refine congrArg (fun x => [x]) ?_
            show _ = Ses.gsOf ⟨kd, size, num, pb, true, flag, data, other⟩
            unfold Ses.gsOf
            rw [if_neg (by simp only; omega), if_neg (by simp only; omega), if_pos (by simp only; omega), HSv.out]
            simp [hm]
      · have t0k : decide (kd % 6 = 0) = false := decide_eq_false (by omega)
        have t1k : decide (kd % 6 = 1) = false := decide_eq_false (by omega)
        have t2k : decide (kd % 6 = 2) = false := decide_eq_false (by omega)
        have t3k : decide (kd % 6 = 3) = true := decide_eq_true (by omega)
        have t4k : decide (kd % 6 = 4) = false := decide_eq_false (by omega)
        have t5k : decide (kd % 6 = 5) = false := decide_eq_false (by omega)
        cases pc with
        | false =>
          go_wp2_with (first
            | (go_at_call 53; (with_reducible refine (HSz.out _).mono ?_); rintro e w5 ⟨rfl, hb5⟩; have hq0 : (wr.alloc (.cells #[.int .u8 kd, .int .u8 size, .int .u64 num, .bool pb, .bool false, .int .u8 flag, .slice A1 nd c1, .slice A2 no c2] 70)).heap[wr.heap.size]? = some (.cells #[.int .u8 kd, .int .u8 size, .int .u64 num, .bool pb, .bool false, .int .u8 flag, .slice A1 nd c1, .slice A2 no c2] 70 (0, 0)) := xb_new _ _; have kq0 := blk_bl hq0 hb5 (xb_lt hq0); have q0 : w5.cell? ⟨wr.heap.size, 0, none⟩ = some (.int .u8 kd) := xb_cell kq0 0; have q3 : w5.cell? ⟨wr.heap.size, 3, none⟩ = some (.bool pb) := xb_cell kq0 3; have q4 : w5.cell? ⟨wr.heap.size, 4, none⟩ = some (.bool false) := xb_cell kq0 4; have q6 : w5.cell? ⟨wr.heap.size, 6, none⟩ = some (.slice A1 nd c1) := xb_cell kq0 6; have HW : Hid (Below wr.heap.size wr w5) := Lib.hid ((below_alloc (Below.refl _ _) _).trans (hb5.mono (by rw [World.size_alloc]; omega))); clear hq0 kq0 hb5)
            | ((with_reducible refine gate_builtin (b := .append) (xs := #[.tmp 40, .tmp 58]) rfl ?_); at_builtin; refine Kd.R_append Ses.gsKd (w0 := w) w.heap.size rfl (.tmp 40) (.tmp 58) 36 35 _ 24 rfl Tryd.underlying36 infG rfl (by decide) (by decide) u3 rs ⟨4, sz, pb, false⟩ [.int .i64 4, .int .i64 sz, .bool pb, .bool false] (fun _ => True) (fun k => False) ?aV ?aX ?aP ?aK (fun _ _ => trivial) ?aO ?aB ?aS ?aL ?_; (case aV => exact rfl); (case aX => first | exact rfl | (simp only [World.size_alloc, World.size_setCell]; exact rfl)); (case aP => exact Ses.gs_make _ _ _ _); (case aK => exact fun k hk => absurd hk id); (case aO => exact Kd.R_below HRow.out HW.out); (case aB => exact HB.out.trans (HW.out.mono HB.out.size)); (case aS => exact (HB.out.trans (HW.out.mono HB.out.size)).size); (case aL => (rw [HL.out]; omega)); intro v10 w10 ho hb hg hat; have HO10 := Lib.hid ho; have HB10 := Lib.hid hb; clear ho hb hg hat))
          go_roundw
          case measure => simp [intOf]; omega
          case rel =>
            refine ⟨j + 1, rs ++ [⟨4, sz, pb, false⟩], by go_num, by omega, HO10, HB10, Lib.hid (by rw [List.length_append, HL.out]; rfl), Lib.hid ?_⟩
            rw [HE.out, List.take_succ_eq_append_getElem (Ses.get_lt HP.out), List.map_append]
            refine congrArg _ ?_
            rw [List.map_cons, List.map_nil, Ses.get_eq HP.out]
            refine congrArg (fun x => [x]) ?_
            show _ = Ses.gsOf ⟨kd, size, num, pb, false, flag, data, other⟩
            unfold Ses.gsOf
            rw [if_neg (by simp only; omega), if_neg (by simp only; omega), if_pos (by simp only; omega), HSv.out]
            simp
        | true =>
          by_cases hs1 : 1 < sz
          · have ts : decide (sz > 1) = true := decide_eq_true hs1
            go_wp2_with (first
              | (go_at_call 53; (with_reducible refine (HSz.out _).mono ?_); rintro e w5 ⟨rfl, hb5⟩; have hq0 : (wr.alloc (.cells #[.int .u8 kd, .int .u8 size, .int .u64 num, .bool pb, .bool true, .int .u8 flag, .slice A1 nd c1, .slice A2 no c2] 70)).heap[wr.heap.size]? = some (.cells #[.int .u8 kd, .int .u8 size, .int .u64 num, .bool pb, .bool true, .int .u8 flag, .slice A1 nd c1, .slice A2 no c2] 70 (0, 0)) := xb_new _ _; have kq0 := blk_bl hq0 hb5 (xb_lt hq0); have q0 : w5.cell? ⟨wr.heap.size, 0, none⟩ = some (.int .u8 kd) := xb_cell kq0 0; have q3 : w5.cell? ⟨wr.heap.size, 3, none⟩ = some (.bool pb) := xb_cell kq0 3; have q4 : w5.cell? ⟨wr.heap.size, 4, none⟩ = some (.bool true) := xb_cell kq0 4; have q6 : w5.cell? ⟨wr.heap.size, 6, none⟩ = some (.slice A1 nd c1) := xb_cell kq0 6; have HW : Hid (Below wr.heap.size wr w5) := Lib.hid ((below_alloc (Below.refl _ _) _).trans (hb5.mono (by rw [World.size_alloc]; omega))); clear hq0 kq0 hb5)
              | ((with_reducible refine gate_builtin (b := .append) (xs := #[.tmp 40, .tmp 58]) rfl ?_); at_builtin; refine Kd.R_append Ses.gsKd (w0 := w) w.heap.size rfl (.tmp 40) (.tmp 58) 36 35 _ 24 rfl Tryd.underlying36 infG rfl (by decide) (by decide) u3 rs ⟨4, sz, pb, true⟩ [.int .i64 4, .int .i64 sz, .bool pb, .bool true] (fun _ => True) (fun k => False) ?aV ?aX ?aP ?aK (fun _ _ => trivial) ?aO ?aB ?aS ?aL ?_; (case aV => exact rfl); (case aX => first | exact rfl | (simp only [World.size_alloc, World.size_setCell]; exact rfl)); (case aP => exact Ses.gs_make _ _ _ _); (case aK => exact fun k hk => absurd hk id); (case aO => exact Kd.R_below HRow.out HW.out); (case aB => exact HB.out.trans (HW.out.mono HB.out.size)); (case aS => exact (HB.out.trans (HW.out.mono HB.out.size)).size); (case aL => (rw [HL.out]; omega)); intro v10 w10 ho hb hg hat; have HO10 := Lib.hid ho; have HB10 := Lib.hid hb; clear ho hb hg hat))
            go_roundw
            case measure => simp [intOf]; omega
            case rel =>
              refine ⟨j + 1, rs ++ [⟨4, sz, pb, true⟩], by go_num, by omega, HO10, HB10, Lib.hid (by rw [List.length_append, HL.out]; rfl), Lib.hid ?_⟩
              rw [HE.out, List.take_succ_eq_append_getElem (Ses.get_lt HP.out), List.map_append]
              refine congrArg _ ?_
              rw [List.map_cons, List.map_nil, Ses.get_eq HP.out]
              refine congrArg (fun x => [x]) ?_
              show _ = Ses.gsOf ⟨kd, size, num, pb, true, flag, data, other⟩
              unfold Ses.gsOf
              rw [if_neg (by simp only; omega), if_neg (by simp only; omega), if_pos (by simp only; omega), HSv.out]
              simp [hm, hs1]
          · have ts : decide (sz > 1) = false := decide_eq_false (by omega)
            go_wp2_with (first
              | (go_at_call 53; (with_reducible refine (HSz.out _).mono ?_); rintro e w5 ⟨rfl, hb5⟩; have hq0 : (wr.alloc (.cells #[.int .u8 kd, .int .u8 size, .int .u64 num, .bool pb, .bool true, .int .u8 flag, .slice A1 nd c1, .slice A2 no c2] 70)).heap[wr.heap.size]? = some (.cells #[.int .u8 kd, .int .u8 size, .int .u64 num, .bool pb, .bool true, .int .u8 flag, .slice A1 nd c1, .slice A2 no c2] 70 (0, 0)) := xb_new _ _; have kq0 := blk_bl hq0 hb5 (xb_lt hq0); have q0 : w5.cell? ⟨wr.heap.size, 0, none⟩ = some (.int .u8 kd) := xb_cell kq0 0; have q3 : w5.cell? ⟨wr.heap.size, 3, none⟩ = some (.bool pb) := xb_cell kq0 3; have q4 : w5.cell? ⟨wr.heap.size, 4, none⟩ = some (.bool true) := xb_cell kq0 4; have q6 : w5.cell? ⟨wr.heap.size, 6, none⟩ = some (.slice A1 nd c1) := xb_cell kq0 6; have HW : Hid (Below wr.heap.size wr w5) := Lib.hid ((below_alloc (Below.refl _ _) _).trans (hb5.mono (by rw [World.size_alloc]; omega))); clear hq0 kq0 hb5)
              | ((with_reducible refine gate_builtin (b := .append) (xs := #[.tmp 40, .tmp 58]) rfl ?_); at_builtin; refine Kd.R_append Ses.gsKd (w0 := w) w.heap.size rfl (.tmp 40) (.tmp 58) 36 35 _ 24 rfl Tryd.underlying36 infG rfl (by decide) (by decide) u3 rs ⟨4, sz, pb, false⟩ [.int .i64 4, .int .i64 sz, .bool pb, .bool false] (fun _ => True) (fun k => False) ?aV ?aX ?aP ?aK (fun _ _ => trivial) ?aO ?aB ?aS ?aL ?_; (case aV => exact rfl); (case aX => first | exact rfl | (simp only [World.size_alloc, World.size_setCell]; exact rfl)); (case aP => exact Ses.gs_make _ _ _ _); (case aK => exact fun k hk => absurd hk id); (case aO => exact Kd.R_below HRow.out HW.out); (case aB => exact HB.out.trans (HW.out.mono HB.out.size)); (case aS => exact (HB.out.trans (HW.out.mono HB.out.size)).size); (case aL => (rw [HL.out]; omega)); intro v10 w10 ho hb hg hat; have HO10 := Lib.hid ho; have HB10 := Lib.hid hb; clear ho hb hg hat))
            go_roundw
            case measure => simp [intOf]; omega
            case rel =>
              refine ⟨j + 1, rs ++ [⟨4, sz, pb, false⟩], by go_num, by omega, HO10, HB10, Lib.hid (by rw [List.length_append, HL.out]; rfl), Lib.hid ?_⟩
              rw [HE.out, List.take_succ_eq_append_getElem (Ses.get_lt HP.out), List.map_append]
              refine congrArg _ ?_
              rw [List.map_cons, List.map_nil, Ses.get_eq HP.out]
              refine congrArg (fun x => [x]) ?_
              show _ = Ses.gsOf ⟨kd, size, num, pb, true, flag, data, other⟩
              unfold Ses.gsOf
              rw [if_neg (by simp only; omega), if_neg (by simp only; omega), if_pos (by simp only; omega), HSv.out]
              simp [hm, hs1]
      · have t0k : decide (kd % 6 = 0) = false := decide_eq_false (by omega)
        have t1k : decide (kd % 6 = 1) = false := decide_eq_false (by omega)
        have t2k : decide (kd % 6 = 2) = false := decide_eq_false (by omega)
        have t3k : decide (kd % 6 = 3) = false := decide_eq_false (by omega)
        have t4k : decide (kd % 6 = 4) = true := decide_eq_true (by omega)
        have t5k : decide (kd % 6 = 5) = false := decide_eq_false (by omega)
        go_wp2_with (first
          | (go_at_call 53; (with_reducible refine (HSz.out _).mono ?_); rintro e w5 ⟨rfl, hb5⟩; have hq0 : (wr.alloc (.cells #[.int .u8 kd, .int .u8 size, .int .u64 num, .bool pb, .bool pc, .int .u8 flag, .slice A1 nd c1, .slice A2 no c2] 70)).heap[wr.heap.size]? = some (.cells #[.int .u8 kd, .int .u8 size, .int .u64 num, .bool pb, .bool pc, .int .u8 flag, .slice A1 nd c1, .slice A2 no c2] 70 (0, 0)) := xb_new _ _; have kq0 := blk_bl hq0 hb5 (xb_lt hq0); have q0 : w5.cell? ⟨wr.heap.size, 0, none⟩ = some (.int .u8 kd) := xb_cell kq0 0; have q3 : w5.cell? ⟨wr.heap.size, 3, none⟩ = some (.bool pb) := xb_cell kq0 3; have q4 : w5.cell? ⟨wr.heap.size, 4, none⟩ = some (.bool pc) := xb_cell kq0 4; have q6 : w5.cell? ⟨wr.heap.size, 6, none⟩ = some (.slice A1 nd c1) := xb_cell kq0 6; have HW : Hid (Below wr.heap.size wr w5) := Lib.hid ((below_alloc (Below.refl _ _) _).trans (hb5.mono (by rw [World.size_alloc]; omega))); clear hq0 kq0 hb5)
          | ((with_reducible refine gate_builtin (b := .append) (xs := #[.tmp 62, .tmp 64]) rfl ?_); at_builtin; refine Kd.R_append Ses.gsKd (w0 := w) w.heap.size rfl (.tmp 62) (.tmp 64) 36 35 _ 24 rfl Tryd.underlying36 infG rfl (by decide) (by decide) u3 rs ⟨6, 0, false, false⟩ [.int .i64 6, .int .i64 0, .bool false, .bool false] (fun _ => True) (fun k => False) ?aV ?aX ?aP ?aK (fun _ _ => trivial) ?aO ?aB ?aS ?aL ?_; (case aV => exact rfl); (case aX => first | exact rfl | (simp only [World.size_alloc, World.size_setCell]; exact rfl)); (case aP => exact Ses.gs_make _ _ _ _); (case aK => exact fun k hk => absurd hk id); (case aO => exact Kd.R_below HRow.out HW.out); (case aB => exact HB.out.trans (HW.out.mono HB.out.size)); (case aS => exact (HB.out.trans (HW.out.mono HB.out.size)).size); (case aL => (rw [HL.out]; omega)); intro v10 w10 ho hb hg hat; have HO10 := Lib.hid ho; have HB10 := Lib.hid hb; clear ho hb hg hat))
        go_roundw
        case measure => simp [intOf]; omega
        case rel =>
          refine ⟨j + 1, rs ++ [⟨6, 0, false, false⟩], by go_num, by omega, HO10, HB10, Lib.hid (by rw [List.length_append, HL.out]; rfl), Lib.hid ?_⟩
          rw [HE.out, List.take_succ_eq_append_getElem (Ses.get_lt HP.out), List.map_append]
          refine congrArg _ ?_
          rw [List.map_cons, List.map_nil, Ses.get_eq HP.out]
          refine congrArg (fun x => [x]) ?_
          show _ = Ses.gsOf ⟨kd, size, num, pb, pc, flag, data, other⟩
          unfold Ses.gsOf
          rw [if_neg (by simp only; omega), if_neg (by simp only; omega), if_neg (by simp only; omega), if_pos hm]
      · have t0k : decide (kd % 6 = 0) = false := decide_eq_false (by omega)
        have t1k : decide (kd % 6 = 1) = false := decide_eq_false (by omega)
        have t2k : decide (kd % 6 = 2) = false := decide_eq_false (by omega)
        have t3k : decide (kd % 6 = 3) = false := decide_eq_false (by omega)
        have t4k : decide (kd % 6 = 4) = false := decide_eq_false (by omega)
        have t5k : decide (kd % 6 = 5) = true := decide_eq_true (by omega)
        go_wp2_with (first
          | (go_at_call 53; (with_reducible refine (HSz.out _).mono ?_); rintro e w5 ⟨rfl, hb5⟩; have hq0 : (wr.alloc (.cells #[.int .u8 kd, .int .u8 size, .int .u64 num, .bool pb, .bool pc, .int .u8 flag, .slice A1 nd c1, .slice A2 no c2] 70)).heap[wr.heap.size]? = some (.cells #[.int .u8 kd, .int .u8 size, .int .u64 num, .bool pb, .bool pc, .int .u8 flag, .slice A1 nd c1, .slice A2 no c2] 70 (0, 0)) := xb_new _ _; have kq0 := blk_bl hq0 hb5 (xb_lt hq0); have q0 : w5.cell? ⟨wr.heap.size, 0, none⟩ = some (.int .u8 kd) := xb_cell kq0 0; have q3 : w5.cell? ⟨wr.heap.size, 3, none⟩ = some (.bool pb) := xb_cell kq0 3; have q4 : w5.cell? ⟨wr.heap.size, 4, none⟩ = some (.bool pc) := xb_cell kq0 4; have q6 : w5.cell? ⟨wr.heap.size, 6, none⟩ = some (.slice A1 nd c1) := xb_cell kq0 6; have HW : Hid (Below wr.heap.size wr w5) := Lib.hid ((below_alloc (Below.refl _ _) _).trans (hb5.mono (by rw [World.size_alloc]; omega))); clear hq0 kq0 hb5)
          | ((with_reducible refine gate_builtin (b := .append) (xs := #[.tmp 68, .tmp 70]) rfl ?_); at_builtin; refine Kd.R_append Ses.gsKd (w0 := w) w.heap.size rfl (.tmp 68) (.tmp 70) 36 35 _ 24 rfl Tryd.underlying36 infG rfl (by decide) (by decide) u3 rs ⟨8, 0, false, false⟩ [.int .i64 8, .int .i64 0, .bool false, .bool false] (fun _ => True) (fun k => False) ?aV ?aX ?aP ?aK (fun _ _ => trivial) ?aO ?aB ?aS ?aL ?_; (case aV => exact rfl); (case aX => first | exact rfl | (simp only [World.size_alloc, World.size_setCell]; exact rfl)); (case aP => exact Ses.gs_make _ _ _ _); (case aK => exact fun k hk => absurd hk id); (case aO => exact Kd.R_below HRow.out HW.out); (case aB => exact HB.out.trans (HW.out.mono HB.out.size)); (case aS => exact (HB.out.trans (HW.out.mono HB.out.size)).size); (case aL => (rw [HL.out]; omega)); intro v10 w10 ho hb hg hat; have HO10 := Lib.hid ho; have HB10 := Lib.hid hb; clear ho hb hg hat))
        go_roundw
        case measure => simp [intOf]; omega
        case rel =>
          refine ⟨j + 1, rs ++ [⟨8, 0, false, false⟩], by go_num, by omega, HO10, HB10, Lib.hid (by rw [List.length_append, HL.out]; rfl), Lib.hid ?_⟩
          rw [HE.out, List.take_succ_eq_append_getElem (Ses.get_lt HP.out), List.map_append]
          refine congrArg _ ?_
          rw [List.map_cons, List.map_nil, Ses.get_eq HP.out]
          refine congrArg (fun x => [x]) ?_
          show _ = Ses.gsOf ⟨kd, size, num, pb, pc, flag, data, other⟩
          unfold Ses.gsOf
          rw [if_neg (by simp only; omega), if_neg (by simp only; omega), if_neg (by simp only; omega), if_neg (by simp only; omega)]
    · have hjn : j = n := by omega
      have t2 : decide ((j : Int) < (n : Int)) = false := decide_eq_false (by omega)
      have hO := HRow.out
      rw [HE.out, hjn, HN.out, List.take_length] at hO
      have HO := Lib.hid hO
      clear hO
      go_wp2
      go_ret
      exact ⟨u3, rfl, HO.out, HB.out⟩
end Go.Proofs.YtdnahdddkagfhaaDoor.X
