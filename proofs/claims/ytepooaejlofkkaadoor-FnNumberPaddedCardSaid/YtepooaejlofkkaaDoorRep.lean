/- bytes.Repeat of one byte; security.PKCS5Padding and impl.Padded over it. -/
import Derived.Test.YtepooaejlofkkaaDoorShelf
import Derived.Test.YtepooaejlofkkaaDoorToN
import Derived.Deep.RegionLaw
import Derived.Shelf.Spec.SlicesInsert
import Derived.Laws.CopyOwn
import Derived.Lib.MakeNoZero
import Derived.Laws.Externs
namespace Go.Proofs.YtepooaejlofkkaaDoor.X
open Go.RowKit Go.Proofs.YtepooaejlofkkaaDoorW.PrintWords Go.Proofs.YtepooaejlofkkaaDoorW.PrintMore
attribute [local go_sem] setCell_drewN alloc_drewN
set_option linter.unusedVariables false
set_option linter.unusedSimpArgs false

theorem mulx (n : Nat) (hn : n ≤ 255) (w : World) :
    Calls Tryd.prog 52 #[.int .u64 1, .int .u64 n] w fun e w' => e = .returned (.tuple #[.int .u64 0, .int .u64 n]) ∧ w = w' := by
  refine (Tryd.bits_Mul 1 n (by omega) (by omega) w).mono ?_
  rintro e w' ⟨rfl, rfl⟩
  refine ⟨?_, rfl⟩
  have h1 : 1 * n / 18446744073709551616 = 0 := by omega
  have h2 : 1 * n % 18446744073709551616 = n := by omega
  rw [h1, h2]
  rfl
/-- How far the row is filled: its first bytes are x. -/
def Full (x : Int) (r N bp : Nat) (w0 wr : World) : Prop :=
  Below w0.heap.size w0 wr ∧ w0.heap.size ≤ r ∧ ∃ cur, wr.heap[r]? = some (.cells cur 5 (0, 0)) ∧ cur.size = N ∧ ∀ i, i < bp → cur[i]? = some (.int .u8 x)
theorem Full.more {x : Int} {r N bp k : Nat} {w0 wr w2 : World} (h : Full x r N bp w0 wr) (hk : bp + k ≤ N) {cur : Array Value} (hc : wr.heap[r]? = some (.cells cur 5 (0, 0))) 
    (h2 : w2 = wr.setRow r (cur.toList.take bp ++ (List.replicate k (Value.int .u8 x) ++ cur.toList.drop (bp + (List.replicate k (Value.int .u8 x)).length))).toArray) : Full x r N (bp + k) w0 w2 := by
  obtain ⟨hB, hr, cu, h3, h4, h5⟩ := h
  rw [hc] at h3
  injection h3 with h3; injection h3 with h3
  subst h3
  subst h2
  refine ⟨below_setRow hB hr _, hr, _, setRow_heap _ _ _ _ _ _ hc, by simp; omega, fun i hi => ?_⟩
  rw [List.getElem?_toArray]
  by_cases hib : i < bp
  · rw [List.getElem?_append_left (by simp; omega), List.getElem?_take, if_pos hib]
    have := h5 i hib
    rwa [← Array.getElem?_toList] at this
  · rw [List.getElem?_append_right (by simp; omega), List.getElem?_append_left (by simp; omega), List.getElem?_replicate, if_pos (by simp; omega)]
set_option maxHeartbeats 4000000 in
set_option maxRecDepth 100000 in
theorem bytesRepeat (g c n : Nat) (x : Int) (w : World) (h0 : w.cell? ⟨g, 0, none⟩ = some (.int .u8 x)) (hn0 : 0 < n) (hn : n ≤ 255) :
    Calls Tryd.prog 45 #[.slice (some ⟨g, 0, none⟩) 1 c, .int .i64 n] w fun e w' => ∃ r, e = .returned (.slice (some ⟨r, 0, none⟩) n n) ∧ Below w.heap.size w w' ∧ ∀ i, i < n → w'.cell? ⟨r, i, none⟩ = some (.int .u8 x) := by
  have HM := Lib.hid (mulx n hn)
  have hne : ((n : Int) == 0) = false := by rw [beq_eq_false_iff_ne]; omega
  go_enter Tryd.func45, Tryd.ntmps45
  go_wp2_with (go_at_call 52; refine (HM.out _).mono ?_; rintro e w' ⟨rfl, rfl⟩)
  obtain ⟨cs, hrun, hcs, hcm⟩ := Lib.run_makeNoZero (P := Tryd.prog) w #[3] 22 5 Tryd.underlying22 n (by omega)
  rw [run_callFunc_extern Tryd.func53 (by kernel_rfl) (by kernel_rfl) (by kernel_rfl) (e := Extern.BytealgMakeNoZero.makeNoZero #[3] #[22]) (by kernel_rfl), hrun]
  simp only [Result.andThen]
  rw [Oper.upon_value]
  have hF : Full x w.heap.size cs.size 0 w (w.drew.drew.alloc (.cells cs 5)) := ⟨(show Below w.heap.size w (w.drew.drew) from ⟨rfl, rfl, rfl, Nat.le_refl _, fun _ _ => rfl⟩).alloc (Nat.le_refl _) _, Nat.le_refl _, cs, xb_new _ _, rfl, fun i hi => absurd hi (Nat.not_lt_zero i)⟩
  have hx1 : (w.drew.drew.alloc (.cells cs 5)).cell? ⟨g, 0, none⟩ = some (.int .u8 x) := cell_alloc _ h0
  have hg : g < w.heap.size := World.block_lt_of_cell? w _ h0
  clear hrun
  generalize hcz : cs.size = N at *
  clear hcz
  generalize w.drew.drew.alloc (.cells cs 5) = w1 at *
  generalize hr : w.heap.size = r at hF ⊢
  obtain ⟨cu, hcu, hcus⟩ : ∃ cu, w1.heap[r]? = some (.cells cu 5 (0, 0)) ∧ cu.size = N := by
    obtain ⟨_, _, cu, h3, h4, _⟩ := hF
    exact ⟨cu, h3, h4⟩
  have c1 := Lib.hid (run_copy_row Tryd.prog w1 22 22 3 5 r 0 n n ⟨g, 0, none⟩ 1 c cu 5 (List.replicate 1 (.int .u8 x)) Tryd.underlying22 (by kernel_rfl) hcu (by rw [List.length_replicate]; exact (Nat.min_eq_left hn0).symm)
    (fun j v hj => by
      have : j = 0 := by
        have := (List.getElem?_eq_some_iff.1 hj).1
        simpa using this
      subst this
      have hv : v = .int .u8 x := by simpa using hj.symm
      subst hv
      exact hx1) (by rw [List.length_replicate]; omega) (fun v hv => by rw [List.eq_of_mem_replicate hv]; rfl))
  obtain ⟨w2, hw2⟩ : ∃ w2, w2 = w1.setRow r (cu.toList.take 0 ++ (List.replicate 1 (Value.int .u8 x) ++ cu.toList.drop (0 + (List.replicate 1 (Value.int .u8 x)).length))).toArray := ⟨_, rfl⟩
  have hF2 := hF.more (k := 1) (by omega) hcu hw2
  have c2 := c1.out
  rw [List.append_assoc, ← hw2, List.length_replicate] at c2
  have C2 := Lib.hid c2
  clear c1 c2 hw2 hcu hcus
  go_wp2_with fail
  rw [C2.out]
  simp only [Result.andThen]
  rw [Oper.upon_value]
  go_wp2
  go_loopw [10] (fun v10 wr => ∃ bp : Nat, 0 < bp ∧ bp ≤ n ∧ v10 = .int .i64 bp ∧ Full x r N bp w wr) (fun v10 _ => n - (intOf v10).toNat)
  case atStart => exact ⟨1, by omega, by omega, rfl, hF2⟩
  case round =>
    obtain ⟨bp, hb0, hbn, rfl, hf⟩ := hrel
    by_cases hlt : bp < n
    · obtain ⟨k, hk⟩ : ∃ k, k = Nat.min bp (n - bp) := ⟨_, rfl⟩
      have hk1 : k ≤ n - bp := by rw [hk]; exact Nat.min_le_right _ _
      have hk2 : k ≤ bp := by rw [hk]; exact Nat.min_le_left _ _
      have hk0 : 0 < k := by rw [hk]; exact Nat.lt_min.2 ⟨hb0, by omega⟩
      have hfd : Full x r N bp w wr.drew := ⟨hf.1.trans ⟨rfl, rfl, rfl, Nat.le_refl _, fun _ _ => rfl⟩, hf.2⟩
      obtain ⟨cu, hcu, hcus, hcx⟩ : ∃ cu, wr.drew.heap[r]? = some (.cells cu 5 (0, 0)) ∧ cu.size = N ∧ ∀ i, i < bp → cu[i]? = some (.int .u8 x) := hfd.2.2
      have c1 := run_copy_row Tryd.prog wr.drew 22 22 3 5 r bp (n - bp) (n - bp) ⟨r, 0, none⟩ bp n cu 5 (List.replicate k (.int .u8 x)) Tryd.underlying22 (by kernel_rfl) hcu (by rw [List.length_replicate]; exact hk)
        (fun j v hj => by
          have hjk := (List.getElem?_eq_some_iff.1 hj).1
          rw [List.length_replicate] at hjk
          have hv : v = .int .u8 x := List.eq_of_mem_replicate (List.mem_of_getElem? hj)
          subst hv
          rw [Addr.add_lit, xb_cell hcu, Nat.zero_add]
          exact hcx j (by omega)) (by rw [List.length_replicate]; omega) (fun v hv => by rw [List.eq_of_mem_replicate hv]; rfl)
      obtain ⟨w2, hw2⟩ : ∃ w2, w2 = wr.drew.setRow r (cu.toList.take bp ++ (List.replicate k (Value.int .u8 x) ++ cu.toList.drop (bp + (List.replicate k (Value.int .u8 x)).length))).toArray := ⟨_, rfl⟩
      have hF2 := hfd.more (k := k) (by omega) hcu hw2
      rw [List.append_assoc, ← hw2, List.length_replicate] at c1
      have C2 := Lib.hid c1
      have HF2 := Lib.hid hF2
      clear c1 hw2 hcu hcus hcx hfd hf hF2 hk
      have hs0 : (0 : Int) ≤ (bp : Int) + k := by omega
      have hs1 : (bp : Int) + k ≤ 255 := by omega
      have hbn' : (bp : Int) ≤ n := by omega
      have hmin : min (bp : Int) (n : Int) = bp := by omega
      have hne2 : ¬ n = bp := by omega
      go_wp2_with fail
      go_region_law (refine Go.Proofs.step_copy_runI rfl _ _ 22 22 rfl (.slice (some ⟨r, bp, none⟩) (n - bp) (n - bp)) (.slice (some ⟨r, 0, none⟩) bp n) (by simp [Act.eval, Act.put]) (by simp [Act.eval, Act.put]) C2.out ?_)
      go_simp
      rw [show IntKind.i64.wrap ((bp : Int) + k) = ((bp + k : Nat) : Int) from by rw [IntKind.wrap_i64]; omega]
      go_roundw
      case rel => exact ⟨_, _, _, _, _, _, _, _, _, _, _, _, _, _, _, _, _, ⟨bp + k, by omega, by omega, rfl, HF2.out⟩, rfl⟩
      case measure => simp [intOf]; omega
    · obtain rfl : bp = n := by omega
      obtain ⟨hB, hr2, cu, hcu, hcus, hcx⟩ := hf
      go_wp2
      go_ret
      exact ⟨r, rfl, hB, fun i hi => (xb_cell hcu i).trans (hcx i hi)⟩
set_option maxHeartbeats 4000000 in
set_option maxRecDepth 100000 in
theorem pkcs5 (A : Option Addr) (c B : Nat) (l : List Int) (blk n : Nat) (w : World) (hR : Kd.R (Kd.int .u8) 5 w B (fun _ => True) (.slice A l.length c) l) (hB : B ≤ w.heap.size) (h0 : 0 < blk) (h1 : blk ≤ 255) (hl : l.length ≤ 2000) (hn : n = blk - l.length % blk) :
    Calls Tryd.prog 36 #[.slice A l.length c, .int .i64 blk] w fun e w' => ∃ v : Value, e = .returned v ∧ Kd.R (Kd.int .u8) 5 w' B (fun _ => True) v (l ++ List.replicate n (n : Int)) ∧ Below B w w' := by
  have hm := Nat.mod_lt l.length h0
  have hn0 : 0 < n := by omega
  have hn1 : n ≤ 255 := by omega
  have HR := Lib.hid hR
  clear hR
  have hrem : Int.tmod (l.length : Int) (blk : Int) = ((l.length % blk : Nat) : Int) := by rw [Int.tmod_eq_emod_of_nonneg (by omega)]; rfl
  have hb0 : ((blk : Int) == 0) = false := by rw [beq_eq_false_iff_ne]; omega
  generalize l.length % blk = m at *
  go_enter Tryd.func36, Tryd.ntmps36
  go_wp2_with fail
  rw [show (blk : Int) - m = (n : Int) from by omega]
  refine (bytesRepeat w.heap.size 1 n n _ (by rw [xb_cell (xb_new _ _)]; rfl) hn0 hn1).mono ?_
  rintro e w2 ⟨r, rfl, hB2, hc⟩
  have hb2 := bl_trans ((Below.refl w.heap.size w).alloc (Nat.le_refl _) (.cells #[.int .u8 (n : Int)] 5)) hB2
  have HB2 := Lib.hid hb2
  have HR2 := Lib.hid (Kd.R_below HR.out hb2)
  have HC2 : Hid (Kd.C (Kd.int .u8) w2 (some ⟨r, 0, none⟩) n (List.replicate n (n : Int))) := Lib.hid (by
    have := C_of (k := .u8) (w := w2) (l := List.replicate n (n : Int)) (g := r) (o := 0) (by rw [List.length_replicate]; omega) (fun i hi => by
      rw [List.length_replicate] at hi
      rw [Nat.zero_add, hc i hi]
      congr 2
      rw [List.getD_eq_getElem?_getD, List.getElem?_replicate, if_pos hi]; rfl)
    rwa [List.length_replicate] at this)
  have hsz := hb2.size
  clear hb2 hB2 hc hrem hb0 hm hn
  go_wp2_with (at_builtin; refine Kd.R_append_rows (Kd.int .u8) (w0 := w) B rfl (.tmp 18) (.tmp 19) 22 5 (.int .u8 0) 1 rfl Tryd.underlying22 info5x rfl (by decide) (by omega) (.slice A l.length c) l (List.replicate n (n : Int)) _ _ _ (fun _ => True) (fun _ => False) rfl rfl ?aO ?aR (fun _ _ h => h) (fun _ h => h.elim) ?aF ?aB ?aS ?aL ?_; (case aR => exact HC2.out); (case aB => exact HB2.out.mono hB); (case aF => exact (fun _ _ => trivial)); (case aO => exact HR2.out); (case aS => omega); (case aL => omega); intro v1 w3 ho hb hg hat)
  go_ret
  exact ⟨v1, rfl, ho, hb⟩
def impl_Padded.f (l0 : List Int) (a1 : Int) : Option (List Int) :=
  if 0 < a1 ∧ a1 ≤ 255 then (if l0.length ≤ 2000 then some (l0 ++ List.replicate (a1.toNat - l0.length % a1.toNat) (a1 - (l0.length : Int) % a1)) else none) else none
set_option maxHeartbeats 4000000 in
set_option maxRecDepth 100000 in
theorem impl_Padded.calls (A0 : Option Addr) (c0 : Nat) (l0 : List Int) (a1 : Int) (r : List Int) (w : World) (hr0 : Kd.C (Kd.int .u8) w A0 l0.length l0) (hc0 : l0.length ≤ c0) (h : impl_Padded.f l0 a1 = some r) :
    Calls Tryd.prog 25 #[.slice A0 l0.length c0, .int .i64 a1] w fun e w' => ∃ v0_ : Value, e = .returned (v0_) ∧ Kd.R (Kd.int .u8) 5 w' w.heap.size (fun _ => True) v0_ r ∧ Below w.heap.size w w' := by
  unfold impl_Padded.f at h
  split at h
  · rename_i h1
    split at h
    · rename_i h2
      obtain rfl := Option.some.inj h
      obtain ⟨blk, rfl⟩ := Int.eq_ofNat_of_zero_le (show 0 ≤ a1 by omega)
      clear h
      have hm := Nat.mod_lt l0.length (show 0 < blk by omega)
      obtain ⟨n, hn⟩ : ∃ n, n = blk - l0.length % blk := ⟨_, rfl⟩
      rw [show (blk : Int) - (l0.length : Int) % (blk : Int) = (n : Int) from by rw [← Int.natCast_emod, hn]; omega, show (blk : Int).toNat - l0.length % (blk : Int).toNat = n from by rw [hn]; rfl]
      have HC := Lib.hid (bytes_Clone.calls A0 c0 l0 l0 w hr0 hc0 (by unfold bytes_Clone.f; rw [if_pos (by omega)]))
      have hb0 : 0 < blk := by omega
      have hb1 : blk ≤ 255 := by omega
      have HN := Lib.hid hn
      clear hr0 hc0 hn hm h1
      show Calls Tryd.prog 25 #[.slice A0 l0.length c0, .int .i64 blk] w (RetRow (l0 ++ List.replicate n (n : Int)) w)
      go_enter Tryd.func25, Tryd.ntmps25
      go_wp2_with fail
      refine HC.out.mono ?_
      rintro e w1 ⟨v, rfl, hR, hB⟩
      obtain ⟨A, c, rfl, hle, _⟩ := Kd.R_reads hR
      have HR := Lib.hid hR
      have HB := Lib.hid hB
      clear hR hB
      go_wp2_with fail
      refine (pkcs5 A c w.heap.size l0 blk n w1 HR.out HB.out.size hb0 hb1 h2 HN.out).mono ?_
      rintro e w2 ⟨v, rfl, hR2, hB2⟩
      have HR2 := Lib.hid hR2
      have HB2 := Lib.hid hB2
      clear hR2 hB2
      go_wp2
      go_ret
      exact ⟨v, rfl, HR2.out, HB.out.trans HB2.out⟩
    · cases h
  · cases h
end Go.Proofs.YtepooaejlofkkaaDoor.X
