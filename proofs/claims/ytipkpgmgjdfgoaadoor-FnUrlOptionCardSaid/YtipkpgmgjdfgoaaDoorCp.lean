/- spec.ConfigParts: the parts of a value between commas, by the reference. -/
import Derived.Test.YtipkpgmgjdfgoaaDoorCq
import Derived.Test.YtipkpgmgjdfgoaaDoorUz
namespace Go.Proofs.YtipkpgmgjdfgoaaDoor.X
open Go.RowKit Go.Proofs.YtipkpgmgjdfgoaaDoorW.PrintWords Go.Proofs.YtipkpgmgjdfgoaaDoorW.PrintMore
attribute [local go_sem] setCell_drewN alloc_drewN
set_option linter.unusedVariables false
set_option linter.unusedSimpArgs false
namespace Url
theorem splitL_len : ∀ l : List UInt8, (splitL l).length ≤ l.length + 1
  | [] => by simp [splitL]
  | c :: r => by
    have ih := splitL_len r
    unfold splitL
    split
    · simp only [List.length_cons]; omega
    · split
      · simp
      · rename_i h t e
        rw [e] at ih
        simp only [List.length_cons] at ih ⊢
        omega
theorem split_comma (l : List UInt8) (i : Nat) (h : i < l.length) (e : l[i] = 44) : (splitL (l.take (i + 1))).map mkB = (splitL (l.take i)).map mkB ++ [⟨#[]⟩] := by
  rw [List.take_succ_eq_append_getElem h, splitL_snoc, if_pos e, List.map_append]
  rfl
theorem splitL_mem : ∀ (l : List UInt8), ∀ p ∈ splitL l, p.length ≤ l.length
  | [], p, h => by simp [splitL] at h; subst h; simp
  | c :: r, p, h => by
    have ih := splitL_mem r
    unfold splitL at h
    split at h
    · rcases List.mem_cons.1 h with rfl | h
      · simp
      · have := ih p h
        simp only [List.length_cons]
        omega
    · split at h
      · rw [List.mem_singleton] at h
        subst h
        simp
      · rename_i a t e
        rw [e] at ih
        rcases List.mem_cons.1 h with rfl | h
        · have := ih a (by simp)
          simp only [List.length_cons]
          omega
        · have := ih p (by simp [h])
          simp only [List.length_cons]
          omega
theorem rd_size (l : List UInt8) (j : Int) : (rdOf ⟨#[]⟩ ((splitL l).map mkB) j).size ≤ l.length := by
  unfold rdOf
  rw [List.getD_eq_getElem?_getD]
  by_cases h : j.toNat < ((splitL l).map mkB).length
  · rw [List.getElem?_eq_getElem h]
    simp only [Option.getD_some, List.getElem_map, mkB_size]
    exact splitL_mem l _ (List.getElem_mem _)
  · rw [List.getElem?_eq_none (by omega)]
    exact Nat.zero_le _
theorem set_last (D : List ByteArray) (z v : ByteArray) : (D ++ [z]).set ((D ++ [z]).length - 1) v = D ++ [v] := by
  rw [List.length_append, List.length_singleton, Nat.add_sub_cancel, List.set_append_right _ _ (Nat.le_refl _), Nat.sub_self]
  rfl
theorem rd_last (D : List ByteArray) (z : ByteArray) : rdOf ⟨#[]⟩ (D ++ [z]) (((D ++ [z]).length : Int) - 1) = z := by
  have e : ((((D ++ [z]).length : Nat) : Int) - 1).toNat = D.length := by rw [List.length_append, List.length_singleton]; omega
  unfold rdOf
  simp [e]
theorem mkB_str1 (c : UInt8) : mkB [c] = strOfNums [(c.toNat : Int)] := by
  apply ByteArray.ext
  simp [mkB, strOfNums]
theorem split_more (l : List UInt8) (i : Nat) (h : i < l.length) (e : l[i] ≠ 44) : (splitL (l.take (i + 1))).map mkB = ((splitL (l.take i)).map mkB).set (((splitL (l.take i)).map mkB).length - 1) (rdOf ⟨#[]⟩ ((splitL (l.take i)).map mkB) ((((splitL (l.take i)).map mkB).length : Int) - 1) ++ strOfNums [((l[i]).toNat : Int)]) := by
  rw [List.take_succ_eq_append_getElem h, splitL_snoc, if_neg e]
  obtain ⟨D, z, hDz⟩ : ∃ D z, splitL (l.take i) = D ++ [z] := ⟨_, _, (List.dropLast_concat_getLast (splitL_ne _)).symm⟩
  simp only [hDz, List.dropLast_concat, List.getLast_concat, List.map_append, List.map_cons, List.map_nil]
  rw [rd_last, set_last, mkB_app, mkB_str1]
theorem bytes_at (s : ByteArray) (i : Nat) (h : i < s.data.toList.length) : (bytesOf s).getD i 0 = ((s.data.toList[i]).toNat : Int) := by
  simp [bytesOf, List.getD_eq_getElem?_getD, List.getElem?_eq_getElem h]
theorem list_of (s : ByteArray) : ∃ l : List UInt8, s = mkB l := ⟨s.data.toList, (mkB_data s).symm⟩
theorem trim_front (s : ByteArray) (h : 0 < s.size) (e : bt s 0 = 32) : trim32 (s.extract 1 s.size).data.toList = trim32 s.data.toList := by
  obtain ⟨l, rfl⟩ := list_of s
  rw [mkB_size] at h
  have e2 := bt_mkB l 0 h
  rw [show ((0 : Nat) : Int) = 0 from rfl, e] at e2
  rw [mkB_extract, data_mkB, data_mkB, mkB_size]
  cases l with
  | nil => simp at h
  | cons a t =>
    simp only [List.getElem_cons_zero] at e2
    have e3 : a = 32 := UInt8.toNat_inj.1 (show a.toNat = 32 by omega)
    subst e3
    rw [trim32_cons, List.drop_succ_cons, List.drop_zero, List.take_of_length_le (by simp)]
theorem trim_back (s : ByteArray) (h : 0 < s.size) (e : bt s ((s.size : Int) - 1) = 32) : trim32 (s.extract 0 (s.size - 1)).data.toList = trim32 s.data.toList := by
  obtain ⟨l, rfl⟩ := list_of s
  rw [mkB_size] at h e
  obtain ⟨D, z, rfl⟩ : ∃ D z, l = D ++ [z] := ⟨_, _, (List.dropLast_concat_getLast (by intro e; rw [e] at h; simp at h)).symm⟩
  have e2 := bt_mkB (D ++ [z]) D.length (by simp)
  rw [show (((D ++ [z]).length : Int) - 1) = (D.length : Int) by simp] at e
  rw [e] at e2
  simp only [List.getElem_concat_length] at e2
  have e3 : z = 32 := UInt8.toNat_inj.1 (show z.toNat = 32 by omega)
  subst e3
  rw [mkB_extract, data_mkB, data_mkB, mkB_size, trim32_snoc]
  simp
theorem trim_fix (l : List UInt8) (h0 : ∀ h : 0 < l.length, l[0] ≠ 32) (h1 : ∀ h : 0 < l.length, l[l.length - 1] ≠ 32) : trim32 l = l := by
  cases hl : l with
  | nil => rfl
  | cons a t =>
    have k0 := h0 (by rw [hl]; simp)
    simp only [hl, List.getElem_cons_zero] at k0
    unfold trim32
    rw [List.dropWhile_cons, if_neg (by unfold sp32; simpa using k0), ← hl]
    have hne : l ≠ [] := by rw [hl]; simp
    have hp : 0 < l.length := by rw [hl]; simp
    have k1 := h1 hp
    have e := List.dropLast_concat_getLast hne
    have k2 : l.getLast hne ≠ 32 := by rw [List.getLast_eq_getElem]; exact k1
    have e2 : l.reverse = l.getLast hne :: l.dropLast.reverse := by
      conv => lhs; rw [← e]
      rw [List.reverse_append]
      rfl
    rw [e2, List.dropWhile_cons, if_neg (by unfold sp32; simpa using k2), ← e2, List.reverse_reverse]
theorem trim_done (s : ByteArray) (h : s.size = 0 ∨ (bt s 0 ≠ 32 ∧ bt s ((s.size : Int) - 1) ≠ 32)) : mkB (trim32 s.data.toList) = s := by
  obtain ⟨l, rfl⟩ := list_of s
  rw [data_mkB, trim_fix]
  · intro hl e
    rcases h with h | h
    · rw [mkB_size] at h; omega
    · have e2 := bt_mkB l 0 hl
      rw [e] at e2
      exact h.1 e2
  · intro hl e
    rcases h with h | h
    · rw [mkB_size] at h; omega
    · have e2 := bt_mkB l (l.length - 1) (by omega)
      rw [e] at e2
      apply h.2
      rw [mkB_size, show ((l.length : Int) - 1) = ((l.length - 1 : Nat) : Int) by omega]
      exact e2
theorem bt_short (s : ByteArray) (m : Nat) (h : 0 < m) (hm : m ≤ s.size) : bt (s.extract 0 m) 0 = bt s 0 := by
  obtain ⟨l, rfl⟩ := list_of s
  rw [mkB_size] at hm
  rw [mkB_extract]
  have e1 := bt_mkB l 0 (by omega)
  have e2 := bt_mkB ((l.drop 0).take (m - 0)) 0 (by simp; omega)
  rw [show ((0 : Nat) : Int) = 0 from rfl] at e1 e2
  rw [e1, e2]
  simp
def trimUp (L : List (List UInt8)) (i : Nat) : List ByteArray := ((L.take i).map fun p => mkB (trim32 p)) ++ (L.drop i).map mkB
theorem trimUp_len (L : List (List UInt8)) (i : Nat) : (trimUp L i).length = L.length := by
  unfold trimUp
  rw [List.length_append, List.length_map, List.length_map, List.length_take, List.length_drop]
  omega
theorem trimUp_all (L : List (List UInt8)) : trimUp L L.length = L.map fun p => mkB (trim32 p) := by
  unfold trimUp
  simp
theorem trimUp_rd (L : List (List UInt8)) (i : Nat) (h : i < L.length) : rdOf ⟨#[]⟩ (trimUp L i) (i : Int) = mkB L[i] := by
  unfold rdOf trimUp
  rw [Int.toNat_natCast, List.getD_eq_getElem?_getD, List.getElem?_append_right (by simp; omega)]
  rw [List.length_map, List.length_take, show i - min i L.length = 0 by omega, List.drop_eq_getElem_cons h]
  rfl
theorem trimUp_set (L : List (List UInt8)) (i : Nat) (h : i < L.length) (v : ByteArray) (hv : v = mkB (trim32 L[i])) : (trimUp L i).set i v = trimUp L (i + 1) := by
  unfold trimUp
  rw [List.set_append_right _ _ (by simp; omega), List.length_map, List.length_take, show i - min i L.length = 0 by omega, List.drop_eq_getElem_cons h, List.map_cons, List.set_cons_zero, List.take_succ_eq_append_getElem h, List.map_append, hv]
  simp
def szOf : Value → Nat
  | .string s => s.size
  | _ => 0
end Url
def spec_ConfigParts.f (a0 : ByteArray) : Option (List ByteArray) := if a0.size ≤ 1000000 then some ((Url.splitL a0.data.toList).map fun p => Url.mkB (Url.trim32 p)) else none
set_option maxHeartbeats 8000000 in
set_option maxRecDepth 100000 in
theorem spec_ConfigParts.calls (a0 : ByteArray) (r : List ByteArray) (w : World) (h : spec_ConfigParts.f a0 = some r) :
    Calls Tryd.prog 53 #[.string a0] w fun e w' => ∃ v, e = .returned v ∧ Kd.R Kd.string 9 w' w.heap.size (fun _ => True) v r ∧ Below w.heap.size w w' := by
  unfold spec_ConfigParts.f at h
  split at h
  · rename_i hsz
    have hr := Lib.hid (Option.some.inj h)
    clear h
    have hba := Url.bytes_at a0
    obtain ⟨l, hl⟩ : ∃ l, l = a0.data.toList := ⟨_, rfl⟩
    have hln : l.length = a0.size := by rw [hl]; exact data_length a0
    rw [← hl] at hr hba
    have HBa := Lib.hid hba
    clear hba
    go_enter Tryd.func53, Tryd.ntmps53
    go_wp2_with ((with_reducible refine gate_dst (N := 8) rfl ?_); refine Kd.R_lit Kd.string _ 9 ?hg (N := 8) ?hd (xs := ([(⟨#[]⟩ : ByteArray)] : List ByteArray)) (inner := [.string (⟨#[]⟩ : ByteArray)]) (ok := fun _ => True) (okp := fun _ => True) ?hr ?hp (fun _ hk => hk) trivial (Below.refl _ _) (Nat.le_refl _) (by simp) ?_; (case hd => rfl); (case hg => rfl); (case hr => first | (go_simp; done) | (go_simp; rfl)); (case hp => exact (Reps.one (show Kd.M Kd.string _ _ _ (⟨#[]⟩ : ByteArray) [.string (⟨#[]⟩ : ByteArray)] from rfl) (Reps.none _ _))); intro v1 w1 hR1 hb1 hg1 hn1; clear hg1 hn1)
    obtain ⟨w2, c, cs, hcv, hsc, hB2, hblk, hcell⟩ := conv_row (P := Tryd.prog) w1 9 43 Tryd.underlying9 Tryd.underlying43 Tryd.underlying5 a0
    obtain ⟨n, hn⟩ : ∃ n, n = a0.size := ⟨_, rfl⟩
    rw [← hn] at hsc hcell hcv hln hsz
    have HN := Lib.hid hn
    have hg2 := xb_lt hblk
    have hR2 : Kd.R Kd.string 9 w2 w.heap.size (fun k => k ≠ w1.heap.size) v1 [(⟨#[]⟩ : ByteArray)] := Kd.R_below (Kd.R_mono (Kd.R_bound hR1) (fun k hk => by have := hk.2.2.1; omega)) hB2
    have HB : Hid (Below w.heap.size w w2) := Lib.hid (hb1.trans (hB2.mono hb1.size))
    have HC : Hid (∀ i : Nat, i < n → ∀ W : World, W.heap[w1.heap.size]? = some (.cells cs 5 (cs.size, cs.size + 1)) → W.cell? ⟨w1.heap.size, i, none⟩ = some (.int .u8 ((bytesOf a0).getD i 0))) := Lib.hid (fun i hi W hW => (xb_cell hW i).trans (hcell i hi))
    have HBlk := Lib.hid hblk
    have hwg : w.heap.size ≤ w1.heap.size := hb1.size
    generalize w1.heap.size = g at *
    have HR2 := Lib.hid hR2
    have HLn := Lib.hid hln
    clear hB2 hblk hcell hb1 hR1 hR2 hn hln hl
    rw [hcv]
    go_simp
    go_wp2
    clear hcv
    go_loopw [3, 12] (fun v3 v12 wr => ∃ i : Nat, i ≤ n ∧ v12 = .int .i64 i ∧ Hid (Kd.R Kd.string 9 wr w.heap.size (fun k => k ≠ g) v3 ((Url.splitL (l.take i)).map Url.mkB)) ∧ Hid (Below w.heap.size w wr) ∧ Hid (wr.heap[g]? = some (.cells cs 5 (cs.size, cs.size + 1)))) (fun _ v12 _ => n - (intOf v12).toNat)
    case atStart => exact ⟨0, Nat.zero_le _, rfl, HR2, HB, HBlk⟩
    case round =>
      obtain ⟨i, hi, rfl, HR, HBr, HK⟩ := hrel
      by_cases hlt : i < n
      · have x0 := HC.out i hlt _ HK.out
        have hxl := HBa.out i (by rw [HLn.out]; exact hlt)
        have hsl : (Url.splitL (l.take i)).length ≤ 1000001 := by
          have := Url.splitL_len (l.take i)
          rw [List.length_take] at this
          omega
        generalize (bytesOf a0).getD i 0 = x at *
        by_cases h44 : x = 44
        · subst h44
          have HCm := Lib.hid (Url.split_comma l i (by rw [HLn.out]; exact hlt) (by
            have e : (l[i]'(by rw [HLn.out]; exact hlt)).toNat = 44 := by omega
            exact UInt8.toNat_inj.1 e))
          have hml : ((Url.splitL (l.take i)).map Url.mkB).length ≤ 1000001 := by rw [List.length_map]; exact hsl
          generalize (Url.splitL (l.take i)).map Url.mkB = acc at *
          have hgw := xb_lt HK.out
          go_wp2_with ((with_reducible refine gate_builtin (b := .append) (xs := #[.tmp 18, .tmp 19]) rfl ?_); at_builtin; refine Kd.R_append Kd.string (w0 := w) w.heap.size rfl (.tmp 18) (.tmp 19) 41 9 (.string ⟨#[]⟩) 16 rfl Tryd.underlying41 ZU.info9 rfl (by decide) (by omega) u3 acc (⟨#[]⟩ : ByteArray) [.string (⟨#[]⟩ : ByteArray)] (fun k => k ≠ g) (fun _ => False) rfl rfl ?aP (fun _ hk => hk.elim) ?aF ?aO ?aB ?aS ?aL ?_; (case aP => exact rfl); (case aB => exact HBr.out); (case aF => exact (fun k hk => by omega)); (case aO => exact HR.out); (case aS => exact HBr.out.size); (case aL => omega); intro v20 w7 ho hb hg hat; have HK7 := Lib.hid ((hg.block g hgw (Kd.R_away HR.out (fun k hk => hk))).trans HK.out); have HB7 := Lib.hid hb; rw [← HCm.out] at ho; have HR7 := Lib.hid ho; clear ho hb hg hat)
          go_roundw
          case rel => exact ⟨i + 1, by omega, by go_num, HR7, HB7, HK7⟩
          case measure => simp [intOf]; omega
        · have d0 : (x == 44) = false := beq_eq_false_iff_ne.2 h44
          have hpos : 0 < ((Url.splitL (l.take i)).map Url.mkB).length := by
            rw [List.length_map]
            exact List.length_pos_iff.2 (Url.splitL_ne _)
          have hml : ((Url.splitL (l.take i)).map Url.mkB).length ≤ 1000001 := by rw [List.length_map]; exact hsl
          obtain ⟨b, cap, rfl, hb1, hb2, hb3⟩ := Kd.R_form HR.out hpos
          have hbg : b ≠ g := HR.out.1 b rfl
          have hrs : ∀ j : Int, (rdOf (⟨#[]⟩ : ByteArray) ((Url.splitL (l.take i)).map Url.mkB) j).size ≤ 1000000 := fun j => by
            have := Url.rd_size (l.take i) j
            rw [List.length_take] at this
            omega
          have hbl := Lib.hid (Url.split_more l i (by rw [HLn.out]; exact hlt) (by
            intro e
            have e2 : (l[i]'(by rw [HLn.out]; exact hlt)).toNat = 44 := by rw [e]; rfl
            omega))
          rw [← hxl] at hbl
          generalize (Url.splitL (l.take i)).map Url.mkB = acc at *
          have hgw := xb_lt HK.out
          have hx0 : 0 ≤ x ∧ x < 256 := by
            have := (l[i]'(by rw [HLn.out]; exact hlt)).toNat_lt
            omega
          have kc : ∀ W : World, (convert 43 9 (.slice (some ⟨W.heap.size, 0, none⟩) 1 1)).run Tryd.prog (W.alloc (.cells #[.int .u8 x] 5)) = .ok (.string (strOfNums [x])) (W.alloc (.cells #[.int .u8 x] 5)) := fun W => by
            have hxn : ((UInt8.ofNat x.toNat).toNat : Int) = x := by
              rw [UInt8.toNat_ofNat']
              omega
            exact Go.run_convert_bytes_back (P := Tryd.prog) (W.alloc (.cells #[.int .u8 x] 5)) 43 9 5 ⟨W.heap.size, 0, none⟩ 1 [UInt8.ofNat x.toNat] Tryd.underlying43 Tryd.underlying5 Tryd.underlying9 (fun j hj => by
              obtain rfl : j = 0 := by simpa using hj
              rw [show (([UInt8.ofNat x.toNat][0]).toNat : Int) = x from hxn]
              exact xb_cell (xb_new W _) 0)
          have kd : ∀ W : World, (convert 43 9 (.slice (some ⟨W.heap.size, 0, none⟩) 1 1)).run Tryd.prog (W.alloc (.cells #[.int .u8 x] 5)).drew = .ok (.string (strOfNums [x])) (W.alloc (.cells #[.int .u8 x] 5)).drew := fun W => by
            have hxn : ((UInt8.ofNat x.toNat).toNat : Int) = x := by
              rw [UInt8.toNat_ofNat']
              omega
            exact Go.run_convert_bytes_back (P := Tryd.prog) (W.alloc (.cells #[.int .u8 x] 5)).drew 43 9 5 ⟨W.heap.size, 0, none⟩ 1 [UInt8.ofNat x.toNat] Tryd.underlying43 Tryd.underlying5 Tryd.underlying9 (fun j hj => by
              obtain rfl : j = 0 := by simpa using hj
              rw [show (([UInt8.ofNat x.toNat][0]).toNat : Int) = x from hxn]
              exact xb_cell (xb_new W _) 0)
          have HX := Lib.hid hxl
          clear hxl
          obtain ⟨jm, hjm⟩ : ∃ jm : Int, (acc.length : Int) - 1 = jm := ⟨_, rfl⟩
          have hjw : IntKind.i64.wrap ((acc.length : Int) - 1) = jm := by rw [hjm]; exact (IntKind.wrap_i64 _).trans (by omega)
          have j0 : 0 ≤ jm := by omega
          have j1 : jm < (acc.length : Int) := by omega
          have j2 := eq_true j0
          have j3 := eq_true j1
          have j4 : decide (0 ≤ jm) = true := decide_eq_true j0
          have j5 : decide (jm < (acc.length : Int)) = true := decide_eq_true j1
          have HJ := Lib.hid hjm
          rw [hjm] at hbl
          clear hjm
          have hs1 : (strOfNums [x]).size = 1 := Url.size_str [x]
          have hs3 := hrs jm
          have hs2 : (rdOf (⟨#[]⟩ : ByteArray) acc jm).size + (strOfNums [x]).size ≤ 9223372036854775807 := by omega
          have hs4 : (rdOf (⟨#[]⟩ : ByteArray) acc jm).size + 1 ≤ 9223372036854775807 := by omega
          clear hrs
          obtain ⟨z0, z1⟩ := Kd.R_cell (⟨#[]⟩ : ByteArray) HR.out jm j0 j1
          go_wp2
          refine wp_region_noPanic ?_
          refine wp_region_held_drew (S := fun _ => True) (by kernel_rfl) trivial (fun hHeld => ?_)
          refine wpAnyH_take (i := 0) (v := ?_) rfl (by kernel_rfl) (by kernel_rfl) (by kernel_rfl) (fun _ _ _ h => h) (Or.inl ⟨by rfl, ?_⟩) (by assumption) ?_
          rotate_left
          · intro w hSw
            go_simp
            try (with_reducible rfl)
          try simp only [Act.put, List.setIfInBounds_toArray, List.set_cons_zero, List.set_cons_succ]
          refine wpAnyH_take (i := 1) (v := ?_) rfl (by kernel_rfl) (by kernel_rfl) (by kernel_rfl) (fun _ _ _ h => h) (Or.inl ⟨by rfl, ?_⟩) (by assumption) ?_
          rotate_left
          · intro w hSw
            go_simp
            try (with_reducible rfl)
          try simp only [Act.put, List.setIfInBounds_toArray, List.set_cons_zero, List.set_cons_succ]
          refine wpAnyH_take (i := 2) (v := ?_) rfl (by kernel_rfl) (by kernel_rfl) (by kernel_rfl) (fun _ _ _ h => h) (Or.inl ⟨by rfl, ?_⟩) (by assumption) ?_
          rotate_left
          · intro w hSw
            go_simp
            try (with_reducible rfl)
          try simp only [Act.put, List.setIfInBounds_toArray, List.set_cons_zero, List.set_cons_succ]
          refine wpAnyH_take (i := 3) (v := ?_) rfl (by kernel_rfl) (by kernel_rfl) (by kernel_rfl) (fun _ _ _ h => h) (Or.inl ⟨by rfl, ?_⟩) (by assumption) ?_
          rotate_left
          · intro w hSw
            go_simp
            try (with_reducible rfl)
          try simp only [Act.put, List.setIfInBounds_toArray, List.set_cons_zero, List.set_cons_succ]
          refine wpAnyH_take (i := 4) (v := ?_) rfl (by kernel_rfl) (by kernel_rfl) (by kernel_rfl) (fun _ _ _ h => h) (Or.inl ⟨by rfl, ?_⟩) (by assumption) ?_
          rotate_left
          · intro w hSw
            go_simp
            try (with_reducible rfl)
          try simp only [Act.put, List.setIfInBounds_toArray, List.set_cons_zero, List.set_cons_succ]
          refine wpAnyH_take (i := 6) (v := ?_) rfl (by kernel_rfl) (by kernel_rfl) (by kernel_rfl) (fun _ _ _ h => h) (Or.inl ⟨by rfl, ?_⟩) (by assumption) ?_
          rotate_left
          · intro w hSw
            go_simp
            try (with_reducible rfl)
          try simp only [Act.put, List.setIfInBounds_toArray, List.set_cons_zero, List.set_cons_succ]
          refine wpAnyH_ready (rs := [5, 7]) (by kernel_rfl) (by simp) ?_
          refine AllReadyH.cons (o := _) rfl (fun K hK => ?_) ?_
          · go_simp
            refine hK.out _ _ trivial (fun hHeld => ?_)
            clear hK K
            try simp only [Act.put, List.setIfInBounds_toArray, List.set_cons_zero, List.set_cons_succ]
            refine wpAnyH_ready (rs := [7]) (by kernel_rfl) (by simp) ?_
            refine AllReadyH.cons (o := _) rfl (fun K hK => ?_) ?_
            · go_simp
              refine hK.out _ _ trivial (fun hHeld => ?_)
              clear hK K
              try simp only [Act.put, List.setIfInBounds_toArray, List.set_cons_zero, List.set_cons_succ]
              refine wpAnyH_ready (rs := [8]) (by kernel_rfl) (by simp) ?_
              refine AllReadyH.cons (o := _) rfl (fun K hK => ?_) ?_
              · go_simp
                refine hK.out _ _ trivial (fun hHeld => ?_)
                clear hK K
                try simp only [Act.put, List.setIfInBounds_toArray, List.set_cons_zero, List.set_cons_succ]
                refine wpAnyH_ready (rs := [9]) (by kernel_rfl) (by simp) ?_
                refine AllReadyH.cons (o := _) rfl (fun K hK => ?_) ?_
                · go_simp
                  go_wp2
                  refine hK.out _ _ trivial (fun hHeld => ?_)
                  clear hK K
                  try simp only [Act.put, List.setIfInBounds_toArray, List.set_cons_zero, List.set_cons_succ]
                  refine wpAnyH_take (i := 10) (v := ?_) rfl (by kernel_rfl) (by kernel_rfl) (by kernel_rfl) (fun _ _ _ h => h) (Or.inl ⟨by rfl, ?_⟩) (by assumption) ?_
                  rotate_left
                  · intro w hSw
                    go_simp
                    try (with_reducible rfl)
                  try simp only [Act.put, List.setIfInBounds_toArray, List.set_cons_zero, List.set_cons_succ]
                  refine wpAnyH_ready (rs := [11]) (by kernel_rfl) (by simp) ?_
                  refine AllReadyH.cons (o := _) rfl (fun K hK => ?_) ?_
                  · go_simp
                    refine hK.out _ _ trivial (fun hHeld => ?_)
                    clear hK K
                    try simp only [Act.put, List.setIfInBounds_toArray, List.set_cons_zero, List.set_cons_succ]
                    refine wpAnyH_done (by kernel_rfl) ?_ _
                    refine NoPanic.normal ?_
                    go_wp2
                    go_roundw
                    case measure => simp [intOf]; omega
                    case rel =>
                      obtain ⟨hP, hG⟩ := Kd.R_put (enc := Value.string) (h1 := fun _ => rfl) HR.out jm (rdOf (⟨#[]⟩ : ByteArray) acc jm ++ strOfNums [x])
                      rw [show jm.toNat = acc.length - 1 by have := HJ.out; omega] at hP
                      rw [← hbl.out] at hP
                      have hkk := (hG.block g hgw (fun e => hbg (Option.some.inj e).symm)).trans HK.out
                      refine ⟨i + 1, by omega, by go_num, Lib.hid ?_, Lib.hid ?_, Lib.hid ?_⟩
                      · rw [show jm.toNat = acc.length - 1 by have := HJ.out; omega]
                        (with_reducible repeat (first | apply Kd.R_alloc | apply Kd.R_drewN | apply Kd.R_drew))
                        exact hP
                      · exact below_drew (below_alloc (grown_below HBr.out hG HBr.out.size hb1) _)
                      · exact blk_bl hkk (below_drew (below_alloc (Below.refl _ _) _)) (xb_lt hkk)
                  exact AllReadyH.nil
                exact AllReadyH.nil
              exact AllReadyH.nil
            exact AllReadyH.nil
          refine AllReadyH.cons (o := _) rfl (fun K hK => ?_) ?_
          · go_simp
            refine hK.out _ _ trivial (fun hHeld => ?_)
            clear hK K
            try simp only [Act.put, List.setIfInBounds_toArray, List.set_cons_zero, List.set_cons_succ]
            refine wpAnyH_ready (rs := [5, 8]) (by kernel_rfl) (by simp) ?_
            refine AllReadyH.cons (o := _) rfl (fun K hK => ?_) ?_
            · go_simp
              refine hK.out _ _ trivial (fun hHeld => ?_)
              clear hK K
              try simp only [Act.put, List.setIfInBounds_toArray, List.set_cons_zero, List.set_cons_succ]
              refine wpAnyH_ready (rs := [8]) (by kernel_rfl) (by simp) ?_
              refine AllReadyH.cons (o := _) rfl (fun K hK => ?_) ?_
              · go_simp
                refine hK.out _ _ trivial (fun hHeld => ?_)
                clear hK K
                try simp only [Act.put, List.setIfInBounds_toArray, List.set_cons_zero, List.set_cons_succ]
                refine wpAnyH_ready (rs := [9]) (by kernel_rfl) (by simp) ?_
                refine AllReadyH.cons (o := _) rfl (fun K hK => ?_) ?_
                · go_simp
                  go_wp2
                  refine hK.out _ _ trivial (fun hHeld => ?_)
                  clear hK K
                  try simp only [Act.put, List.setIfInBounds_toArray, List.set_cons_zero, List.set_cons_succ]
                  refine wpAnyH_take (i := 10) (v := ?_) rfl (by kernel_rfl) (by kernel_rfl) (by kernel_rfl) (fun _ _ _ h => h) (Or.inl ⟨by rfl, ?_⟩) (by assumption) ?_
                  rotate_left
                  · intro w hSw
                    go_simp
                    try (with_reducible rfl)
                  try simp only [Act.put, List.setIfInBounds_toArray, List.set_cons_zero, List.set_cons_succ]
                  refine wpAnyH_ready (rs := [11]) (by kernel_rfl) (by simp) ?_
                  refine AllReadyH.cons (o := _) rfl (fun K hK => ?_) ?_
                  · go_simp
                    refine hK.out _ _ trivial (fun hHeld => ?_)
                    clear hK K
                    try simp only [Act.put, List.setIfInBounds_toArray, List.set_cons_zero, List.set_cons_succ]
                    refine wpAnyH_done (by kernel_rfl) ?_ _
                    refine NoPanic.normal ?_
                    go_wp2
                    go_roundw
                    case measure => simp [intOf]; omega
                    case rel =>
                      obtain ⟨hP, hG⟩ := Kd.R_put (enc := Value.string) (h1 := fun _ => rfl) HR.out jm (rdOf (⟨#[]⟩ : ByteArray) acc jm ++ strOfNums [x])
                      rw [show jm.toNat = acc.length - 1 by have := HJ.out; omega] at hP
                      rw [← hbl.out] at hP
                      have hkk := (hG.block g hgw (fun e => hbg (Option.some.inj e).symm)).trans HK.out
                      refine ⟨i + 1, by omega, by go_num, Lib.hid ?_, Lib.hid ?_, Lib.hid ?_⟩
                      · rw [show jm.toNat = acc.length - 1 by have := HJ.out; omega]
                        (with_reducible repeat (first | apply Kd.R_alloc | apply Kd.R_drewN | apply Kd.R_drew))
                        exact hP
                      · exact below_drew (below_alloc (grown_below HBr.out hG HBr.out.size hb1) _)
                      · exact blk_bl hkk (below_drew (below_alloc (Below.refl _ _) _)) (xb_lt hkk)
                  exact AllReadyH.nil
                exact AllReadyH.nil
              exact AllReadyH.nil
            refine AllReadyH.cons (o := _) rfl (fun K hK => ?_) ?_
            · go_simp
              refine hK.out _ _ trivial (fun hHeld => ?_)
              clear hK K
              try simp only [Act.put, List.setIfInBounds_toArray, List.set_cons_zero, List.set_cons_succ]
              refine wpAnyH_ready (rs := [5]) (by kernel_rfl) (by simp) ?_
              refine AllReadyH.cons (o := _) rfl (fun K hK => ?_) ?_
              · go_simp
                refine hK.out _ _ trivial (fun hHeld => ?_)
                clear hK K
                try simp only [Act.put, List.setIfInBounds_toArray, List.set_cons_zero, List.set_cons_succ]
                refine wpAnyH_ready (rs := [9]) (by kernel_rfl) (by simp) ?_
                refine AllReadyH.cons (o := _) rfl (fun K hK => ?_) ?_
                · go_simp
                  go_wp2
                  refine hK.out _ _ trivial (fun hHeld => ?_)
                  clear hK K
                  try simp only [Act.put, List.setIfInBounds_toArray, List.set_cons_zero, List.set_cons_succ]
                  refine wpAnyH_take (i := 10) (v := ?_) rfl (by kernel_rfl) (by kernel_rfl) (by kernel_rfl) (fun _ _ _ h => h) (Or.inl ⟨by rfl, ?_⟩) (by assumption) ?_
                  rotate_left
                  · intro w hSw
                    go_simp
                    try (with_reducible rfl)
                  try simp only [Act.put, List.setIfInBounds_toArray, List.set_cons_zero, List.set_cons_succ]
                  refine wpAnyH_ready (rs := [11]) (by kernel_rfl) (by simp) ?_
                  refine AllReadyH.cons (o := _) rfl (fun K hK => ?_) ?_
                  · go_simp
                    refine hK.out _ _ trivial (fun hHeld => ?_)
                    clear hK K
                    try simp only [Act.put, List.setIfInBounds_toArray, List.set_cons_zero, List.set_cons_succ]
                    refine wpAnyH_done (by kernel_rfl) ?_ _
                    refine NoPanic.normal ?_
                    go_wp2
                    go_roundw
                    case measure => simp [intOf]; omega
                    case rel =>
                      obtain ⟨hP, hG⟩ := Kd.R_put (enc := Value.string) (h1 := fun _ => rfl) HR.out jm (rdOf (⟨#[]⟩ : ByteArray) acc jm ++ strOfNums [x])
                      rw [show jm.toNat = acc.length - 1 by have := HJ.out; omega] at hP
                      rw [← hbl.out] at hP
                      have hkk := (hG.block g hgw (fun e => hbg (Option.some.inj e).symm)).trans HK.out
                      refine ⟨i + 1, by omega, by go_num, Lib.hid ?_, Lib.hid ?_, Lib.hid ?_⟩
                      · rw [show jm.toNat = acc.length - 1 by have := HJ.out; omega]
                        (with_reducible repeat (first | apply Kd.R_alloc | apply Kd.R_drewN | apply Kd.R_drew))
                        exact hP
                      · exact below_drew (below_alloc (grown_below HBr.out hG HBr.out.size hb1) _)
                      · exact blk_bl hkk (below_drew (below_alloc (Below.refl _ _) _)) (xb_lt hkk)
                  exact AllReadyH.nil
                exact AllReadyH.nil
              exact AllReadyH.nil
            exact AllReadyH.nil
          exact AllReadyH.nil
      · obtain rfl : i = n := by omega
        rw [List.take_of_length_le (by rw [HLn.out]; exact Nat.le_refl _)] at HR
        clear HC HK HBa
        have hpos : 0 < ((Url.splitL l).map Url.mkB).length := by
          rw [List.length_map]
          exact List.length_pos_iff.2 (Url.splitL_ne _)
        have hml : ((Url.splitL l).map Url.mkB).length ≤ 1000001 := by
          rw [List.length_map]
          have := Url.splitL_len l
          have := HLn.out
          omega
        obtain ⟨b, cap, rfl, hb1, hb2, hb3⟩ := Kd.R_form HR.out hpos
        have hbg : b ≠ g := HR.out.1 b rfl
        have hL1 := Url.splitL_mem l
        rw [HLn.out] at hL1
        obtain ⟨L, hL⟩ : ∃ L, L = Url.splitL l := ⟨_, rfl⟩
        rw [← hL] at HR hL1 hr hpos hml ⊢
        obtain ⟨m, hm⟩ : ∃ m, m = (L.map Url.mkB).length := ⟨_, rfl⟩
        rw [← hm] at HR hpos hml ⊢
        have hmL : m = L.length := by rw [hm, List.length_map]
        have e0 : Url.trimUp L 0 = L.map Url.mkB := by unfold Url.trimUp; simp
        rw [← e0] at HR
        have HM := Lib.hid hmL
        have HL1 := Lib.hid hL1
        clear hm hmL hL hL1 e0 hb3
        go_wp2
        go_loopw [35] (fun v35 wr => ∃ i : Nat, i ≤ m ∧ v35 = .int .i64 i ∧ Hid (Kd.R Kd.string 9 wr w.heap.size (fun k => k ≠ g) (.slice (some ⟨b, 0, none⟩) m cap) (Url.trimUp L i)) ∧ Hid (Below w.heap.size w wr)) (fun v35 _ => m - (intOf v35).toNat)
        case atStart => exact ⟨0, Nat.zero_le _, rfl, HR, HBr⟩
        case round =>
          obtain ⟨i, him, rfl, HRi, HBi⟩ := hrel
          by_cases hlt2 : i < m
          · have hiL : i < L.length := by rw [← HM.out]; exact hlt2
            obtain ⟨x0, x1⟩ := Kd.R_celln (enc := Value.string) (h1 := fun _ => rfl) (⟨#[]⟩ : ByteArray) HRi.out (i : Int) (by omega) (by omega)
            rw [Url.trimUp_rd L i hiL] at x0
            rw [Int.toNat_natCast] at x0 x1
            have hps := HL1.out _ (List.getElem_mem hiL)
            obtain ⟨p, hp⟩ : ∃ p, L[i] = p := ⟨_, rfl⟩
            have HP := Lib.hid hp
            rw [hp] at x0 hps
            clear hp
            go_wp2
            go_loop [7] (fun v7 => ∃ s : ByteArray, v7 = .string s ∧ Hid (Url.trim32 s.data.toList = Url.trim32 p ∧ s.size ≤ 1000000)) (fun v7 => Url.szOf v7)
            case atStart => exact ⟨Url.mkB p, rfl, Lib.hid ⟨by rw [Url.data_mkB], by rw [Url.mkB_size]; omega⟩⟩
            case round =>
              obtain ⟨s, rfl, HQ⟩ := hrel
              have hs1 := HQ.out.2
              by_cases y0 : s.size = 0
              · have d0 : decide (0 < (s.size : Int)) = false := decide_eq_false (by omega)
                go_wp2
                go_loop [7] (fun v7 => ∃ s : ByteArray, v7 = .string s ∧ Hid (Url.trim32 s.data.toList = Url.trim32 p ∧ s.size ≤ 1000000 ∧ (s.size = 0 ∨ bt s 0 ≠ 32))) (fun v7 => Url.szOf v7)
                case atStart => exact ⟨s, rfl, Lib.hid ⟨HQ.out.1, HQ.out.2, .inl y0⟩⟩
                case round =>
                  obtain ⟨s2, rfl, HQ2⟩ := hrel
                  have hs2 := HQ2.out.2.1
                  by_cases z0 : s2.size = 0
                  · have e0 : decide (0 < (s2.size : Int)) = false := decide_eq_false (by omega)
                    go_wp2
                    have HD := Lib.hid (Url.trim_done s2 (.inl z0))
                    go_roundw
                    case measure => simp [intOf]; omega
                    case rel =>
                      have hP := Kd.R_putg (enc := Value.string) (h1 := fun _ => rfl) HRi.out (i : Int) s2
                      rw [Int.toNat_natCast, Url.trimUp_set L i hiL s2 (by rw [← HD.out, HQ2.out.1, HP.out])] at hP
                      exact ⟨i + 1, by omega, by go_num, Lib.hid hP.1, Lib.hid (grown_below HBi.out hP.2 HBi.out.size hb1)⟩
                  · have e0 : decide (0 < (s2.size : Int)) = true := decide_eq_true (by omega)
                    obtain ⟨jl, hjl⟩ : ∃ jl : Int, (s2.size : Int) - 1 = jl := ⟨_, rfl⟩
                    have hjw : IntKind.i64.wrap ((s2.size : Int) - 1) = jl := by rw [hjl]; exact (IntKind.wrap_i64 _).trans (by omega)
                    have j0 : (0 ≤ jl) = True := eq_true (by omega)
                    have j1 : (jl < (s2.size : Int)) = True := eq_true (by omega)
                    have j2 : decide (0 ≤ jl) = true := decide_eq_true (by omega)
                    have j3 : decide (jl < (s2.size : Int)) = true := decide_eq_true (by omega)
                    have j4 : (jl ≤ (s2.size : Int)) = True := eq_true (by omega)
                    have j5 : decide (jl ≤ (s2.size : Int)) = true := decide_eq_true (by omega)
                    have hx := bt_at s2 jl
                    have HJ := Lib.hid hjl
                    clear hjl
                    by_cases c0 : bt s2 jl = 32
                    · have c1 : (bt s2 jl == 32) = true := beq_iff_eq.2 c0
                      have HN2 : Hid (Url.trim32 (s2.extract 0 jl.toNat).data.toList = Url.trim32 p ∧ (s2.extract 0 jl.toNat).size ≤ 1000000 ∧ ((s2.extract 0 jl.toNat).size = 0 ∨ bt (s2.extract 0 jl.toNat) 0 ≠ 32)) := Lib.hid (by
                        have hj := HJ.out
                        rw [show jl.toNat = s2.size - 1 by omega]
                        refine ⟨(Url.trim_back s2 (by omega) (by rw [hj]; exact c0)).trans HQ2.out.1, ?_, ?_⟩
                        · rw [ByteArray.size_extract]; omega
                        · by_cases h1 : s2.size = 1
                          · exact .inl (by rw [ByteArray.size_extract]; omega)
                          · rcases HQ2.out.2.2 with h | h
                            · omega
                            · exact .inr (by rw [Url.bt_short s2 _ (by omega) (by omega)]; exact h))
                      go_wp2
                      go_round
                      case measure => show (s2.extract 0 _).size < s2.size; rw [ByteArray.size_extract]; have := HJ.out; omega
                      case rel => exact ⟨_, rfl, HN2⟩
                    · have c1 : (bt s2 jl == 32) = false := beq_eq_false_iff_ne.2 c0
                      go_wp2
                      have HD := Lib.hid (Url.trim_done s2 (.inr ⟨HQ2.out.2.2.resolve_left z0, by rw [HJ.out]; exact c0⟩))
                      go_roundw
                      case measure => simp [intOf]; omega
                      case rel =>
                        have hP := Kd.R_putg (enc := Value.string) (h1 := fun _ => rfl) HRi.out (i : Int) s2
                        rw [Int.toNat_natCast, Url.trimUp_set L i hiL s2 (by rw [← HD.out, HQ2.out.1, HP.out])] at hP
                        exact ⟨i + 1, by omega, by go_num, Lib.hid hP.1, Lib.hid (grown_below HBi.out hP.2 HBi.out.size hb1)⟩
              · have d0 : decide (0 < (s.size : Int)) = true := decide_eq_true (by omega)
                have d1 : ((0 : Int) < (s.size : Int)) = True := eq_true (by omega)
                have d2 : decide ((1 : Int) ≤ (s.size : Int)) = true := decide_eq_true (by omega)
                have d3 : ((1 : Int) ≤ (s.size : Int)) = True := eq_true (by omega)
                have hx0 : ∀ h : 0 < s.size, ((s[0]'h).toNat : Int) = bt s 0 := bt_at s 0
                by_cases c2 : bt s 0 = 32
                · have c3 : (bt s 0 == 32) = true := beq_iff_eq.2 c2
                  go_wp2
                  go_round
                  case measure => show (s.extract _ _).size < s.size; rw [ByteArray.size_extract]; omega
                  case rel => exact ⟨_, rfl, Lib.hid ⟨(Url.trim_front s (by omega) c2).trans HQ.out.1, by rw [ByteArray.size_extract]; omega⟩⟩
                · have c3 : (bt s 0 == 32) = false := beq_eq_false_iff_ne.2 c2
                  go_wp2
                  go_loop [7] (fun v7 => ∃ s : ByteArray, v7 = .string s ∧ Hid (Url.trim32 s.data.toList = Url.trim32 p ∧ s.size ≤ 1000000 ∧ (s.size = 0 ∨ bt s 0 ≠ 32))) (fun v7 => Url.szOf v7)
                  case atStart => exact ⟨s, rfl, Lib.hid ⟨HQ.out.1, HQ.out.2, .inr c2⟩⟩
                  case round =>
                    obtain ⟨s2, rfl, HQ2⟩ := hrel
                    have hs2 := HQ2.out.2.1
                    by_cases z0 : s2.size = 0
                    · have e0 : decide (0 < (s2.size : Int)) = false := decide_eq_false (by omega)
                      go_wp2
                      have HD := Lib.hid (Url.trim_done s2 (.inl z0))
                      go_roundw
                      case measure => simp [intOf]; omega
                      case rel =>
                        have hP := Kd.R_putg (enc := Value.string) (h1 := fun _ => rfl) HRi.out (i : Int) s2
                        rw [Int.toNat_natCast, Url.trimUp_set L i hiL s2 (by rw [← HD.out, HQ2.out.1, HP.out])] at hP
                        exact ⟨i + 1, by omega, by go_num, Lib.hid hP.1, Lib.hid (grown_below HBi.out hP.2 HBi.out.size hb1)⟩
                    · have e0 : decide (0 < (s2.size : Int)) = true := decide_eq_true (by omega)
                      obtain ⟨jl, hjl⟩ : ∃ jl : Int, (s2.size : Int) - 1 = jl := ⟨_, rfl⟩
                      have hjw : IntKind.i64.wrap ((s2.size : Int) - 1) = jl := by rw [hjl]; exact (IntKind.wrap_i64 _).trans (by omega)
                      have j0 : (0 ≤ jl) = True := eq_true (by omega)
                      have j1 : (jl < (s2.size : Int)) = True := eq_true (by omega)
                      have j2 : decide (0 ≤ jl) = true := decide_eq_true (by omega)
                      have j3 : decide (jl < (s2.size : Int)) = true := decide_eq_true (by omega)
                      have j4 : (jl ≤ (s2.size : Int)) = True := eq_true (by omega)
                      have j5 : decide (jl ≤ (s2.size : Int)) = true := decide_eq_true (by omega)
                      have hx := bt_at s2 jl
                      have HJ := Lib.hid hjl
                      clear hjl
                      by_cases c0 : bt s2 jl = 32
                      · have c1 : (bt s2 jl == 32) = true := beq_iff_eq.2 c0
                        have HN2 : Hid (Url.trim32 (s2.extract 0 jl.toNat).data.toList = Url.trim32 p ∧ (s2.extract 0 jl.toNat).size ≤ 1000000 ∧ ((s2.extract 0 jl.toNat).size = 0 ∨ bt (s2.extract 0 jl.toNat) 0 ≠ 32)) := Lib.hid (by
                          have hj := HJ.out
                          rw [show jl.toNat = s2.size - 1 by omega]
                          refine ⟨(Url.trim_back s2 (by omega) (by rw [hj]; exact c0)).trans HQ2.out.1, ?_, ?_⟩
                          · rw [ByteArray.size_extract]; omega
                          · by_cases h1 : s2.size = 1
                            · exact .inl (by rw [ByteArray.size_extract]; omega)
                            · rcases HQ2.out.2.2 with h | h
                              · omega
                              · exact .inr (by rw [Url.bt_short s2 _ (by omega) (by omega)]; exact h))
                        go_wp2
                        go_round
                        case measure => show (s2.extract 0 _).size < s2.size; rw [ByteArray.size_extract]; have := HJ.out; omega
                        case rel => exact ⟨_, rfl, HN2⟩
                      · have c1 : (bt s2 jl == 32) = false := beq_eq_false_iff_ne.2 c0
                        go_wp2
                        have HD := Lib.hid (Url.trim_done s2 (.inr ⟨HQ2.out.2.2.resolve_left z0, by rw [HJ.out]; exact c0⟩))
                        go_roundw
                        case measure => simp [intOf]; omega
                        case rel =>
                          have hP := Kd.R_putg (enc := Value.string) (h1 := fun _ => rfl) HRi.out (i : Int) s2
                          rw [Int.toNat_natCast, Url.trimUp_set L i hiL s2 (by rw [← HD.out, HQ2.out.1, HP.out])] at hP
                          exact ⟨i + 1, by omega, by go_num, Lib.hid hP.1, Lib.hid (grown_below HBi.out hP.2 HBi.out.size hb1)⟩
          · obtain rfl : i = m := by omega
            have HRf := HRi.out
            rw [show Url.trimUp L i = r by rw [HM.out, Url.trimUp_all]; exact hr.out] at HRf
            go_wp2
            go_ret
            exact ⟨_, rfl, Kd.R_mono HRf (fun _ _ => trivial), HBi.out⟩
  · cases h
end Go.Proofs.YtipkpgmgjdfgoaaDoor.X
