/- configSteps; the two ways of telling whether servers are one. -/
import Derived.Test.YtgjjmhhdncmigaaDoorVa
import Derived.Test.YtgjjmhhdncmigaaDoorShelf
import Derived.Deep.RegionHeld3
namespace Go.Proofs.YtgjjmhhdncmigaaDoor.X
open Go.RowKit Go.Proofs.YtgjjmhhdncmigaaDoorW.PrintWords Go.Proofs.YtgjjmhhdncmigaaDoorW.PrintMore
attribute [local go_sem] setCell_drewN alloc_drewN
set_option linter.unusedVariables false
set_option linter.unusedSimpArgs false
set_option maxHeartbeats 4000000 in
set_option maxRecDepth 100000 in
theorem configSteps_ok (l : List Sv.Stp) (A : Option Addr) (cA : Nat) (w : World) (hC : Sv.stpKd.C w A l.length l) (hn : l.length ≤ 2147483647) :
    Calls Tryd.prog 6 #[.slice A l.length cA] w fun e w' => Sv.BlP (l.length ≤ 100 ∧ ∀ x ∈ l, Sv.Ok x.2) e ∧ Below w.heap.size w w' := by
  have infS : (Tryd.prog.info? 30).map (fun i => (i.zero, i.size, i.bytes)) = some (some (.agg #[.string ⟨#[]⟩, .string ⟨#[]⟩, .int .i64 0]), 3, 40) := by kernel_rfl
  have HC := Lib.hid hC
  obtain ⟨n, hnl⟩ : ∃ n, n = l.length := ⟨_, rfl⟩
  have HN := Lib.hid hnl
  rw [← hnl] at hn ⊢
  clear hC hnl
  go_enter Tryd.func6, Tryd.ntmps6
  go_wp2
  go_loopw [3, 8] (fun v3 v8 wr => ∃ j : Nat, v8 = .int .i64 j ∧ j ≤ n ∧ Hid (Sv.srvKd.R 30 wr w.heap.size (fun _ => True) v3 ((l.take j).map Prod.snd)) ∧ Hid (Below w.heap.size w wr)) (fun _ v8 _ => n - (intOf v8).toNat)
  case atStart => exact ⟨0, rfl, Nat.zero_le _, Lib.hid (by rw [List.take_zero]; exact Kd.R_nil _ _ _ _ _), Lib.hid (Below.refl _ _)⟩
  case round =>
    obtain ⟨j, rfl, hj, HO, HB⟩ := hrel
    by_cases hlt : j < n
    · have hjl : j < l.length := by rw [← HN.out]; exact hlt
      have t2 : decide ((j : Int) < (n : Int)) = true := decide_eq_true (by omega)
      obtain ⟨g0, o0, rfl, s0, s1, s2, s3⟩ := Sv.stp_at (Kd.C_below HC.out HB.out) j hjl
      have HP : Hid ((l.take (j + 1)).map Prod.snd = (l.take j).map Prod.snd ++ [(l[j]).2]) := Lib.hid (by rw [List.take_succ_eq_append_getElem hjl, List.map_append]; rfl)
      generalize l[j] = p at s0 s1 s2 s3 HP
      obtain ⟨kd, pr, ad, po⟩ := p
      simp only at s0 s1 s2 s3
      have HW : Hid (Below wr.heap.size wr (wr.alloc (.cells #[.int .i64 kd, .string pr, .string ad, .int .i64 po] 32))) := Lib.hid (below_alloc (Below.refl _ _) _)
      go_wp2_with ((with_reducible refine gate_builtin (b := .append) (xs := #[.tmp 12, .tmp 15]) rfl ?_); at_builtin; refine Kd.R_append Sv.srvKd (w0 := w) w.heap.size rfl (.tmp 12) (.tmp 15) 25 30 _ 40 rfl Tryd.underlying25 infS rfl (by decide) (by decide) u3 ((l.take j).map Prod.snd) (pr, ad, po) [.string pr, .string ad, .int .i64 po] (fun _ => True) (fun k => False) ?aV ?aX ?aP ?aK (fun _ _ => trivial) ?aO ?aB ?aS ?aL ?_; (case aV => exact rfl); (case aX => first | exact rfl | (rw [World.size_alloc]; exact rfl)); (case aP => exact Sv.srv_make _ _ _ pr ad po); (case aK => exact fun k hk => absurd hk id); (case aO => exact Kd.R_below HO.out HW.out); (case aB => exact HB.out.trans (HW.out.mono HB.out.size)); (case aS => exact (HB.out.trans (HW.out.mono HB.out.size)).size); (case aL => (rw [List.length_map, List.length_take]; omega)); intro v10 w10 ho hb hg hat; have HO10 := Lib.hid ho; have HB10 := Lib.hid hb; clear ho hb hg hat)
      go_roundw
      case measure => simp [intOf]; omega
      case rel => exact ⟨j + 1, by go_num, by omega, Lib.hid (by rw [HP.out]; exact HO10.out), HB10⟩
    · have hjn : j = n := by omega
      have t2 : decide ((j : Int) < (n : Int)) = false := decide_eq_false (by omega)
      obtain ⟨Ao, co, e3, hco, hCo⟩ := Kd.R_reads HO.out
      have hlo : ((l.take j).map Prod.snd).length = n := by rw [List.length_map, List.length_take]; have := HN.out; omega
      have hmap : (l.take j).map Prod.snd = l.map Prod.snd := by rw [List.take_of_length_le (by have := HN.out; omega)]
      rw [hlo] at e3 hco hCo
      rw [hmap] at hCo
      have HL : Hid ((l.map Prod.snd).length = n) := Lib.hid (by rw [← hmap]; exact hlo)
      subst e3
      have HSv : Hid (Calls Tryd.prog 13 #[.slice Ao n co] wr fun e w' => Sv.BlP (n ≤ 100 ∧ ∀ s ∈ l.map Prod.snd, Sv.Ok s) e ∧ Below wr.heap.size wr w') := Lib.hid (by
        have h := configServers_ok (l.map Prod.snd) Ao co wr (by rw [HL.out]; exact hCo)
        rw [HL.out] at h
        exact h)
      clear hCo
      go_wp2_with (go_at_call 13; (with_reducible refine HSv.out.mono ?_); rintro e w4 ⟨⟨b, rfl, hb⟩, hb4⟩; have HA := Lib.hid hb; have HB4 := Lib.hid hb4; clear hb hb4)
      go_ret
      exact ⟨⟨b, rfl, fun h => ⟨(HA.out h).1, fun x hx => (HA.out h).2 x.2 (List.mem_map_of_mem hx)⟩⟩, HB.out.trans (HB4.out.mono HB.out.size)⟩
namespace Sv
theorem low_bd {x : Int} (h0 : 0 ≤ x) (h1 : x ≤ 255) : 0 ≤ lowc x ∧ lowc x ≤ 255 := by unfold lowc; split <;> omega
theorem byt_lowT (s : ByteArray) : Byt (lowT s) := by
  intro x hx
  obtain ⟨y, hy, rfl⟩ := List.mem_map.1 hx
  have h := byt_bytesOf s y hy
  exact low_bd h.1 h.2
theorem bytes_str : ∀ (l : List Int), Byt l → bytesOf (strOfNums l) = l
  | [], _ => rfl
  | x :: l, h => by
    have ih := bytes_str l (fun y hy => h y (by simp [hy]))
    have h0 := h x (by simp)
    unfold bytesOf strOfNums at ih ⊢
    simp only [List.map_cons, List.toList_toArray] at ih ⊢
    rw [ih]
    congr 1
    rw [UInt8.toNat_ofNat']
    have : x.toNat % 2 ^ 8 = x.toNat := Nat.mod_eq_of_lt (by omega)
    rw [this]
    omega
theorem str_inj {l m : List Int} (hl : Byt l) (hm : Byt m) (h : strOfNums l = strOfNums m) : l = m := by
  rw [← bytes_str l hl, ← bytes_str m hm, h]
theorem low_eq (a b : ByteArray) : decide (strOfNums ((bytesOf a).map lowc) = strOfNums ((bytesOf b).map lowc)) = decide (lowT a = lowT b) :=
  decide_eq_decide.2 ⟨fun h => str_inj (byt_lowT a) (byt_lowT b) h, fun h => by show strOfNums (lowT a) = strOfNums (lowT b); rw [h]⟩
theorem str_beq (x y : ByteArray) : (x.toList == y.toList) = decide (x = y) := by
  rw [ByteArray.toList_eq, ByteArray.toList_eq]
  by_cases h : x = y
  · subst h; simp
  · rw [decide_eq_false h]
    refine beq_eq_false_iff_ne.2 (fun e => h ?_)
    cases x
    cases y
    congr
    exact Array.toList_inj.1 e
theorem upperB_nat (b : UInt8) : (Lib.upperB b).toNat = if 97 ≤ b.toNat ∧ b.toNat ≤ 122 then b.toNat - 32 else b.toNat := by
  have h : ∀ n : Fin 256, (Lib.upperB (UInt8.ofNat n.val)).toNat = if 97 ≤ n.val ∧ n.val ≤ 122 then n.val - 32 else n.val := by decide +kernel
  have k := h ⟨b.toNat, b.toNat_lt⟩
  simpa using k
theorem fold_one (x y : UInt8) : Lib.foldEq (Lib.upperB x) (Lib.upperB y) = decide (lowc (x.toNat : Int) = lowc (y.toNat : Int)) := by
  unfold Lib.foldEq lowc
  rw [upperB_nat, upperB_nat]
  have hx := x.toNat_lt
  have hy := y.toNat_lt
  generalize x.toNat = a at *
  generalize y.toNat = b at *
  refine decide_eq_decide.2 ?_
  split <;> split <;> split <;> split <;> omega
theorem fold_up : ∀ (a b : List UInt8), Lib.equalFold (Lib.toUpperA a) (Lib.toUpperA b) = decide ((a.map (fun x => (x.toNat : Int))).map lowc = (b.map (fun x => (x.toNat : Int))).map lowc)
  | [], [] => rfl
  | [], y :: t => by simp [Lib.toUpperA, Lib.equalFold]
  | x :: s, [] => by simp [Lib.toUpperA, Lib.equalFold]
  | x :: s, y :: t => by
    have h := fold_up s t
    unfold Lib.toUpperA at h ⊢
    simp only [List.map_cons, Lib.equalFold, h, fold_one]
    simp only [List.cons.injEq, Bool.decide_and]
theorem upper_ascii (l : List UInt8) (h : ∀ x ∈ l, x.toNat < 128) : ∀ (j : Nat) b, (Lib.toUpperA l)[j]? = some b → b.toNat < 128 := by
  intro j b hb
  obtain ⟨x, hx, rfl⟩ := List.mem_map.1 (List.mem_of_getElem? hb)
  rw [upperB_nat]
  have := h x hx
  split <;> omega
theorem plain_u8 {a : ByteArray} (h : ∀ x ∈ bytesOf a, x < 128) : ∀ x ∈ a.data.toList, x.toNat < 128 := by
  intro x hx
  have := h (x.toNat : Int) (List.mem_map_of_mem (f := fun b : UInt8 => (b.toNat : Int)) hx)
  omega
def sameA (a : ByteArray) (m : Int) (b : ByteArray) (n : Int) : Bool := decide (m = n) && decide (lowT a = lowT b)
theorem same_eq (x y : Srv) : same x y = sameA x.2.1 x.2.2 y.2.1 y.2.2 := rfl
/-- The text in capital letters. -/
def upS (a : ByteArray) : ByteArray := ⟨(Lib.toUpperA a.data.toList).toArray⟩
end Sv
set_option maxHeartbeats 4000000 in
set_option maxRecDepth 100000 in
theorem isEqual_ok (g1 o1 g2 o2 : Nat) (a b : ByteArray) (m n : Int) (w : World) (c1 : w.cell? ⟨g1, o1 + 1, none⟩ = some (.string a)) (c2 : w.cell? ⟨g1, o1 + 2, none⟩ = some (.int .i64 m)) (d1 : w.cell? ⟨g2, o2 + 1, none⟩ = some (.string b)) (d2 : w.cell? ⟨g2, o2 + 2, none⟩ = some (.int .i64 n)) (ha : a.size ≤ 300) (hb : b.size ≤ 300) (pa : ∀ x ∈ bytesOf a, x < 128) (pb : ∀ x ∈ bytesOf b, x < 128) :
    Calls Tryd.prog 27 #[.pointer (some ⟨g1, o1, none⟩), .pointer (some ⟨g2, o2, none⟩)] w fun e w' => e = .returned (.bool (Sv.sameA a m b n)) ∧ Below w.heap.size w w' := by
  have HU1 := Lib.hid (fun W => Tryd.strings_ToUpper_ascii a W (by omega) (fun j b hb => Sv.plain_u8 pa b (List.mem_of_getElem? hb)))
  have HU2 := Lib.hid (fun W => Tryd.strings_ToUpper_ascii b W (by omega) (fun j b hb => Sv.plain_u8 pb b (List.mem_of_getElem? hb)))
  have hz : (Sv.upS a).size < 4294967281 := by
    show (Lib.toUpperA a.data.toList).toArray.size < _
    simp only [Lib.toUpperA, List.size_toArray, List.length_map, Array.length_toList]
    have : a.data.size = a.size := rfl
    omega
  obtain ⟨q, hq⟩ : ∃ q, q = decide (Sv.lowT a = Sv.lowT b) := ⟨_, rfl⟩
  have HF : Hid (∀ W, Calls Tryd.prog 28 #[.string (Sv.upS a), .string (Sv.upS b)] W fun e w' => e = .returned (.bool q) ∧ w' = W) := Lib.hid (fun W => (Tryd.strings_EqualFold (Sv.upS a) (Sv.upS b) W hz (Sv.upper_ascii _ (Sv.plain_u8 pa)) (Sv.upper_ascii _ (Sv.plain_u8 pb))).mono (by
    rintro e w' ⟨rfl, rfl⟩
    refine ⟨?_, rfl⟩
    rw [hq]
    have := Sv.fold_up a.data.toList b.data.toList
    exact congrArg (fun x => Ending.returned (.bool x)) this))
  obtain ⟨r, hr⟩ : ∃ r, r = Sv.sameA a m b n := ⟨_, rfl⟩
  rw [← hr]
  have HR : Hid (r = (decide (m = n) && q)) := Lib.hid (by rw [hr, hq]; rfl)
  clear hz hq hr pa pb ha hb
  obtain ⟨ua, hua⟩ : ∃ u, u = Sv.upS a := ⟨_, rfl⟩
  obtain ⟨ub, hub⟩ : ∃ u, u = Sv.upS b := ⟨_, rfl⟩
  have HU1 : Hid (∀ W, Calls Tryd.prog 29 #[.string a] W fun e w' => e = .returned (.string ua) ∧ Below W.heap.size W w') := Lib.hid (fun W => by rw [hua]; exact HU1.out W)
  have HU2 : Hid (∀ W, Calls Tryd.prog 29 #[.string b] W fun e w' => e = .returned (.string ub) ∧ Below W.heap.size W w') := Lib.hid (fun W => by rw [hub]; exact HU2.out W)
  rw [← hua, ← hub] at HF
  clear hua hub
  cases q
  · have HRf : Hid (r = false) := Lib.hid (by rw [HR.out]; simp)
    clear HR
    go_enter Tryd.func27, Tryd.ntmps27
    go_wp2_with fail
    refine wp_region_noPanic ?_
    refine wp_region_held_drew (S := fun w' => w'.cell? ⟨g1, o1 + 1, none⟩ = some (.string a) ∧ w'.cell? ⟨g1, o1 + 2, none⟩ = some (.int .i64 m) ∧ w'.cell? ⟨g2, o2 + 1, none⟩ = some (.string b) ∧ w'.cell? ⟨g2, o2 + 2, none⟩ = some (.int .i64 n)) (by kernel_rfl) ⟨c1, c2, d1, d2⟩ (fun hHeld => ?_)
    refine wpAnyH_take (i := 0) (v := ?_) rfl (by kernel_rfl) (by kernel_rfl) (by kernel_rfl) (fun _ _ _ h => h) (Or.inl ⟨by rfl, ?_⟩) (by assumption) ?_
    rotate_left
    · intro w hSw
      obtain ⟨x1, x2, x3, x4⟩ := hSw
      go_simp
      try (with_reducible rfl)
    try simp only [Act.put, List.getElem_toArray, List.getElem_cons_succ, List.getElem_cons_zero, List.setIfInBounds_toArray, List.set_cons_zero, List.set_cons_succ]
    refine wpAnyH_take (i := 1) (v := ?_) rfl (by kernel_rfl) (by kernel_rfl) (by kernel_rfl) (fun _ _ _ h => h) (Or.inl ⟨by rfl, ?_⟩) (by assumption) ?_
    rotate_left
    · intro w hSw
      obtain ⟨x1, x2, x3, x4⟩ := hSw
      go_simp
      try (with_reducible rfl)
    try simp only [Act.put, List.getElem_toArray, List.getElem_cons_succ, List.getElem_cons_zero, List.setIfInBounds_toArray, List.set_cons_zero, List.set_cons_succ]
    refine wpAnyH_take (i := 2) (v := ?_) rfl (by kernel_rfl) (by kernel_rfl) (by kernel_rfl) (fun _ _ _ h => h) (Or.inl ⟨by rfl, ?_⟩) (by assumption) ?_
    rotate_left
    · intro w hSw
      obtain ⟨x1, x2, x3, x4⟩ := hSw
      go_simp
      try (with_reducible rfl)
    try simp only [Act.put, List.getElem_toArray, List.getElem_cons_succ, List.getElem_cons_zero, List.setIfInBounds_toArray, List.set_cons_zero, List.set_cons_succ]
    refine wpAnyH_take (i := 3) (v := ?_) rfl (by kernel_rfl) (by kernel_rfl) (by kernel_rfl) (fun _ _ _ h => h) (Or.inl ⟨by rfl, ?_⟩) (by assumption) ?_
    rotate_left
    · intro w hSw
      obtain ⟨x1, x2, x3, x4⟩ := hSw
      go_simp
      try (with_reducible rfl)
    try simp only [Act.put, List.getElem_toArray, List.getElem_cons_succ, List.getElem_cons_zero, List.setIfInBounds_toArray, List.set_cons_zero, List.set_cons_succ]
    refine wpAnyH_take (i := 5) (v := ?_) rfl (by kernel_rfl) (by kernel_rfl) (by kernel_rfl) (fun _ _ _ h => h) (Or.inl ⟨by rfl, ?_⟩) (by assumption) ?_
    rotate_left
    · intro w hSw
      obtain ⟨x1, x2, x3, x4⟩ := hSw
      go_simp
      try (with_reducible rfl)
    try simp only [Act.put, List.getElem_toArray, List.getElem_cons_succ, List.getElem_cons_zero, List.setIfInBounds_toArray, List.set_cons_zero, List.set_cons_succ]
    refine wpAnyH_take (i := 6) (v := ?_) rfl (by kernel_rfl) (by kernel_rfl) (by kernel_rfl) (fun _ _ _ h => h) (Or.inl ⟨by rfl, ?_⟩) (by assumption) ?_
    rotate_left
    · intro w hSw
      obtain ⟨x1, x2, x3, x4⟩ := hSw
      go_simp
      try (with_reducible rfl)
    try simp only [Act.put, List.getElem_toArray, List.getElem_cons_succ, List.getElem_cons_zero, List.setIfInBounds_toArray, List.set_cons_zero, List.set_cons_succ]
    refine wpAnyH_take (i := 7) (v := ?_) rfl (by kernel_rfl) (by kernel_rfl) (by kernel_rfl) (fun _ _ _ h => h) (Or.inl ⟨by rfl, ?_⟩) (by assumption) ?_
    rotate_left
    · intro w hSw
      obtain ⟨x1, x2, x3, x4⟩ := hSw
      go_simp
      try (with_reducible rfl)
    try simp only [Act.put, List.getElem_toArray, List.getElem_cons_succ, List.getElem_cons_zero, List.setIfInBounds_toArray, List.set_cons_zero, List.set_cons_succ]
    refine wpAnyH_take (i := 8) (v := ?_) rfl (by kernel_rfl) (by kernel_rfl) (by kernel_rfl) (fun _ _ _ h => h) (Or.inl ⟨by rfl, ?_⟩) (by assumption) ?_
    rotate_left
    · intro w hSw
      obtain ⟨x1, x2, x3, x4⟩ := hSw
      go_simp
      try (with_reducible rfl)
    try simp only [Act.put, List.getElem_toArray, List.getElem_cons_succ, List.getElem_cons_zero, List.setIfInBounds_toArray, List.set_cons_zero, List.set_cons_succ]
    refine wpAnyH_ready (rs := [4]) (by kernel_rfl) (by simp) ?_
    refine AllReadyH.cons (o := _) rfl (fun K hK => ?_) ?_
    · go_simp
      go_at_call 29
      (with_reducible refine (HU1.out _).mono ?_)
      rintro e w3 ⟨rfl, hb3⟩
      have hB3 := bl_trans (bl_drewN w 1) hb3
      have p1 := bl_cell hB3 c1
      have p2 := bl_cell hB3 c2
      have p3 := bl_cell hB3 d1
      have p4 := bl_cell hB3 d2
      have HB3 := Lib.hid hB3
      clear hB3 hb3
      go_wp2
      refine hK.out _ _ ⟨p1, p2, p3, p4⟩ (fun hHeld => ?_)
      clear hK K
      try simp only [Act.put, List.getElem_toArray, List.getElem_cons_succ, List.getElem_cons_zero, List.setIfInBounds_toArray, List.set_cons_zero, List.set_cons_succ]
      refine wpAnyH_ready (rs := [9]) (by kernel_rfl) (by simp) ?_
      refine AllReadyH.cons (o := _) rfl (fun K hK => ?_) ?_
      · go_simp
        go_at_call 29
        (with_reducible refine (HU2.out _).mono ?_)
        rintro e w4 ⟨rfl, hb4⟩
        have hB4 := bl_trans HB3.out hb4
        have q1 := bl_cell hB4 c1
        have q2 := bl_cell hB4 c2
        have q3 := bl_cell hB4 d1
        have q4 := bl_cell hB4 d2
        have HB4 := Lib.hid hB4
        clear hB4 hb4
        go_wp2
        refine hK.out _ _ ⟨q1, q2, q3, q4⟩ (fun hHeld => ?_)
        clear hK K
        try simp only [Act.put, List.getElem_toArray, List.getElem_cons_succ, List.getElem_cons_zero, List.setIfInBounds_toArray, List.set_cons_zero, List.set_cons_succ]
        refine wpAnyH_ready (rs := [10]) (by kernel_rfl) (by simp) ?_
        refine AllReadyH.cons (o := _) rfl (fun K hK => ?_) ?_
        · go_simp
          go_at_call 28
          (with_reducible refine (HF.out _).mono ?_)
          rintro e w5 ⟨rfl, hw5⟩
          have u1 := q1
          go_wp2
          refine hK.out _ _ ⟨hw5 ▸ q1, hw5 ▸ q2, hw5 ▸ q3, hw5 ▸ q4⟩ (fun hHeld => ?_)
          clear hK K
          try simp only [Act.put, List.getElem_toArray, List.getElem_cons_succ, List.getElem_cons_zero, List.setIfInBounds_toArray, List.set_cons_zero, List.set_cons_succ]
          refine wpAnyH_take (i := 11) (v := ?_) rfl (by kernel_rfl) (by kernel_rfl) (by kernel_rfl) (fun _ _ _ h => h) (Or.inl ⟨by rfl, ?_⟩) (by assumption) ?_
          rotate_left
          · intro w hSw
            obtain ⟨x1, x2, x3, x4⟩ := hSw
            go_simp
            try (with_reducible rfl)
          try simp only [Act.put, List.getElem_toArray, List.getElem_cons_succ, List.getElem_cons_zero, List.setIfInBounds_toArray, List.set_cons_zero, List.set_cons_succ]
          refine wpAnyH_take (i := 12) (v := undef) rfl (by kernel_rfl) (by kernel_rfl) (by kernel_rfl) (fun _ _ _ h => h) (Or.inr ⟨by rfl, rfl⟩) (by assumption) ?_
          try simp only [Act.put, List.getElem_toArray, List.getElem_cons_succ, List.getElem_cons_zero, List.setIfInBounds_toArray, List.set_cons_zero, List.set_cons_succ]
          refine wpAnyH_take (i := 13) (v := undef) rfl (by kernel_rfl) (by kernel_rfl) (by kernel_rfl) (fun _ _ _ h => h) (Or.inr ⟨by rfl, rfl⟩) (by assumption) ?_
          try simp only [Act.put, List.getElem_toArray, List.getElem_cons_succ, List.getElem_cons_zero, List.setIfInBounds_toArray, List.set_cons_zero, List.set_cons_succ]
          refine wpAnyH_take (i := 14) (v := undef) rfl (by kernel_rfl) (by kernel_rfl) (by kernel_rfl) (fun _ _ _ h => h) (Or.inr ⟨by rfl, rfl⟩) (by assumption) ?_
          try simp only [Act.put, List.getElem_toArray, List.getElem_cons_succ, List.getElem_cons_zero, List.setIfInBounds_toArray, List.set_cons_zero, List.set_cons_succ]
          refine wpAnyH_take (i := 15) (v := undef) rfl (by kernel_rfl) (by kernel_rfl) (by kernel_rfl) (fun _ _ _ h => h) (Or.inr ⟨by rfl, rfl⟩) (by assumption) ?_
          try simp only [Act.put, List.getElem_toArray, List.getElem_cons_succ, List.getElem_cons_zero, List.setIfInBounds_toArray, List.set_cons_zero, List.set_cons_succ]
          refine wpAnyH_take (i := 16) (v := undef) rfl (by kernel_rfl) (by kernel_rfl) (by kernel_rfl) (fun _ _ _ h => h) (Or.inr ⟨by rfl, rfl⟩) (by assumption) ?_
          try simp only [Act.put, List.getElem_toArray, List.getElem_cons_succ, List.getElem_cons_zero, List.setIfInBounds_toArray, List.set_cons_zero, List.set_cons_succ]
          refine wpAnyH_take (i := 17) (v := undef) rfl (by kernel_rfl) (by kernel_rfl) (by kernel_rfl) (fun _ _ _ h => h) (Or.inr ⟨by rfl, rfl⟩) (by assumption) ?_
          try simp only [Act.put, List.getElem_toArray, List.getElem_cons_succ, List.getElem_cons_zero, List.setIfInBounds_toArray, List.set_cons_zero, List.set_cons_succ]
          refine wpAnyH_take (i := 18) (v := undef) rfl (by kernel_rfl) (by kernel_rfl) (by kernel_rfl) (fun _ _ _ h => h) (Or.inr ⟨by rfl, rfl⟩) (by assumption) ?_
          try simp only [Act.put, List.getElem_toArray, List.getElem_cons_succ, List.getElem_cons_zero, List.setIfInBounds_toArray, List.set_cons_zero, List.set_cons_succ]
          refine wpAnyH_take (i := 19) (v := undef) rfl (by kernel_rfl) (by kernel_rfl) (by kernel_rfl) (fun _ _ _ h => h) (Or.inr ⟨by rfl, rfl⟩) (by assumption) ?_
          try simp only [Act.put, List.getElem_toArray, List.getElem_cons_succ, List.getElem_cons_zero, List.setIfInBounds_toArray, List.set_cons_zero, List.set_cons_succ]
          refine wpAnyH_take (i := 20) (v := undef) rfl (by kernel_rfl) (by kernel_rfl) (by kernel_rfl) (fun _ _ _ h => h) (Or.inr ⟨by rfl, rfl⟩) (by assumption) ?_
          try simp only [Act.put, List.getElem_toArray, List.getElem_cons_succ, List.getElem_cons_zero, List.setIfInBounds_toArray, List.set_cons_zero, List.set_cons_succ]
          refine wpAnyH_take (i := 21) (v := ?_) rfl (by kernel_rfl) (by kernel_rfl) (by kernel_rfl) (fun _ _ _ h => h) (Or.inl ⟨by rfl, ?_⟩) (by assumption) ?_
          rotate_left
          · intro w hSw
            obtain ⟨x1, x2, x3, x4⟩ := hSw
            go_simp
            try (with_reducible rfl)
          try simp only [Act.put, List.getElem_toArray, List.getElem_cons_succ, List.getElem_cons_zero, List.setIfInBounds_toArray, List.set_cons_zero, List.set_cons_succ]
          refine wpAnyH_take (i := 22) (v := ?_) rfl (by kernel_rfl) (by kernel_rfl) (by kernel_rfl) (fun _ _ _ h => h) (Or.inl ⟨by rfl, ?_⟩) (by assumption) ?_
          rotate_left
          · intro w hSw
            obtain ⟨x1, x2, x3, x4⟩ := hSw
            go_simp
            try (with_reducible rfl)
          try simp only [Act.put, List.getElem_toArray, List.getElem_cons_succ, List.getElem_cons_zero, List.setIfInBounds_toArray, List.set_cons_zero, List.set_cons_succ]
          refine wpAnyH_done (by kernel_rfl) ?_ _
          refine NoPanic.normal ?_
          go_wp2
          go_ret
          exact ⟨by rw [HRf.out]; rfl, hw5 ▸ HB4.out⟩
        exact AllReadyH.nil
      exact AllReadyH.nil
    exact AllReadyH.nil
  · have HRf : Hid (r = (m == n)) := Lib.hid (by rw [HR.out, Bool.and_true]; rfl)
    clear HR
    go_enter Tryd.func27, Tryd.ntmps27
    go_wp2_with fail
    go_region_held3 (fun w' => w'.cell? ⟨g1, o1 + 1, none⟩ = some (.string a) ∧ w'.cell? ⟨g1, o1 + 2, none⟩ = some (.int .i64 m) ∧ w'.cell? ⟨g2, o2 + 1, none⟩ = some (.string b) ∧ w'.cell? ⟨g2, o2 + 2, none⟩ = some (.int .i64 n)) (first | exact ⟨c1, c2, d1, d2⟩ | exact ⟨p1, p2, p3, p4⟩ | exact ⟨q1, q2, q3, q4⟩) (first | (go_at_call 29; (with_reducible refine (HU1.out _).mono ?_); rintro e w3 ⟨rfl, hb3⟩; have hB3 := bl_trans (bl_drewN w _) hb3; have p1 := bl_cell hB3 c1; have p2 := bl_cell hB3 c2; have p3 := bl_cell hB3 d1; have p4 := bl_cell hB3 d2; have HB3 := Lib.hid hB3; clear hB3 hb3) | (go_at_call 29; (with_reducible refine (HU2.out _).mono ?_); rintro e w4 ⟨rfl, hb4⟩; have hB4 := bl_trans HB3.out hb4; have q1 := bl_cell hB4 c1; have q2 := bl_cell hB4 c2; have q3 := bl_cell hB4 d1; have q4 := bl_cell hB4 d2; have HB4 := Lib.hid hB4; clear hB4 hb4) | (go_at_call 28; (with_reducible refine (HF.out _).mono ?_); rintro e w5 ⟨rfl, hw5⟩; have HB5 := Lib.hid (hw5.symm ▸ HB4.out); subst hw5))
    go_simp
    go_wp2
    go_ret
    exact ⟨by rw [HRf.out]; rfl, HB4.out⟩
set_option maxHeartbeats 4000000 in
set_option maxRecDepth 100000 in
theorem serversEqual_ok (x y : Sv.Srv) (w : World) (ha : x.2.1.size ≤ 300) (hb : y.2.1.size ≤ 300) :
    Calls Tryd.prog 16 #[.agg #[.string x.1, .string x.2.1, .int .i64 x.2.2], .agg #[.string y.1, .string y.2.1, .int .i64 y.2.2]] w fun e w' => e = .returned (.bool (Sv.same x y)) ∧ Below w.heap.size w w' := by
  obtain ⟨r, hr⟩ : ∃ r, r = Sv.same x y := ⟨_, rfl⟩
  rw [← hr]
  have HR : Hid (r = (decide (x.2.2 = y.2.2) && decide (Sv.lowT x.2.1 = Sv.lowT y.2.1))) := Lib.hid hr
  have HE : Hid (decide (strOfNums ((bytesOf x.2.1).map lowc) = strOfNums ((bytesOf y.2.1).map lowc)) = decide (Sv.lowT x.2.1 = Sv.lowT y.2.1)) := Lib.hid (Sv.low_eq _ _)
  have HL1 := Lib.hid (fun W => spec_configLow.calls x.2.1 _ W (by rw [spec_configLow.f, if_pos (by omega)]))
  have HL2 := Lib.hid (fun W => spec_configLow.calls y.2.1 _ W (by rw [spec_configLow.f, if_pos (by omega)]))
  clear hr ha hb
  obtain ⟨lx, hlx⟩ : ∃ u, u = strOfNums ((bytesOf x.2.1).map lowc) := ⟨_, rfl⟩
  obtain ⟨ly, hly⟩ : ∃ u, u = strOfNums ((bytesOf y.2.1).map lowc) := ⟨_, rfl⟩
  rw [← hlx, ← hly] at HE
  rw [← hlx] at HL1
  rw [← hly] at HL2
  clear hlx hly
  obtain ⟨p, a, m⟩ := x
  obtain ⟨q, b, n⟩ := y
  simp only at HR HE HL1 HL2 ⊢
  have hC0 : ∀ k, ((w.alloc (.cells #[.string p, .string a, .int .i64 m] 30)).alloc (.cells #[.string q, .string b, .int .i64 n] 30)).cell? ⟨w.heap.size, k, none⟩ = (#[Value.string p, .string a, .int .i64 m])[k]? := fun k => xb_cell (xb_alloc (xb_new _ _)) k
  have hC1 : ∀ k, ((w.alloc (.cells #[.string p, .string a, .int .i64 m] 30)).alloc (.cells #[.string q, .string b, .int .i64 n] 30)).cell? ⟨w.heap.size + 1, k, none⟩ = (#[Value.string q, .string b, .int .i64 n])[k]? := fun k => by
    have h := xb_cell (xb_new (w.alloc (.cells #[.string p, .string a, .int .i64 m] 30)) (.cells #[.string q, .string b, .int .i64 n] 30)) k
    rw [World.size_alloc] at h
    exact h
  have c1 := hC0 1
  have c2 := hC0 2
  have d1 := hC1 1
  have d2 := hC1 2
  have HB0 : Hid (Below w.heap.size w ((w.alloc (.cells #[.string p, .string a, .int .i64 m] 30)).alloc (.cells #[.string q, .string b, .int .i64 n] 30))) := Lib.hid (below_alloc (below_alloc (Below.refl _ _) _) _)
  clear hC0 hC1
  go_enter Tryd.func16, Tryd.ntmps16
  go_wp2_with fail
  generalize (w.alloc (.cells #[.string p, .string a, .int .i64 m] 30)).alloc (.cells #[.string q, .string b, .int .i64 n] 30) = W at c1 c2 d1 d2 HB0 ⊢
  generalize hhs : w.heap.size = hs at c1 c2 d1 d2 HB0 ⊢
  simp only [List.getElem?_toArray, List.getElem?_cons_zero, List.getElem?_cons_succ] at c1 c2 d1 d2
  by_cases hmn : m = n
  · have t1 : decide (m = n) = true := decide_eq_true hmn
    have HRf : Hid (r = (lx.toList == ly.toList)) := Lib.hid (by rw [HR.out, t1, Sv.str_beq, HE.out]; rfl)
    go_region_held3 (fun w' => w'.cell? ⟨hs, 1, none⟩ = some (.string a) ∧ w'.cell? ⟨hs, 2, none⟩ = some (.int .i64 m) ∧ w'.cell? ⟨hs + 1, 1, none⟩ = some (.string b) ∧ w'.cell? ⟨hs + 1, 2, none⟩ = some (.int .i64 n)) (first | exact ⟨c1, c2, d1, d2⟩ | exact ⟨p1, p2, p3, p4⟩ | exact ⟨q1, q2, q3, q4⟩) (first | (go_at_call 26; (with_reducible refine (HL1.out _).mono ?_); rintro e w3 ⟨rfl, hb3⟩; have hB3 := bl_trans (bl_drewN W _) hb3; have p1 := bl_cell hB3 c1; have p2 := bl_cell hB3 c2; have p3 := bl_cell hB3 d1; have p4 := bl_cell hB3 d2; have HB3 := Lib.hid hB3; clear hB3 hb3) | (go_at_call 26; (with_reducible refine (HL2.out _).mono ?_); rintro e w4 ⟨rfl, hb4⟩; have hB4 := bl_trans HB3.out hb4; have q1 := bl_cell hB4 c1; have q2 := bl_cell hB4 c2; have q3 := bl_cell hB4 d1; have q4 := bl_cell hB4 d2; have HB4 := Lib.hid hB4; clear hB4 hb4))
    go_wp2
    go_ret
    exact ⟨by rw [HRf.out]; rfl, by rw [hhs]; exact HB0.out.trans (HB4.out.mono (by have := HB0.out.size; omega))⟩
  · have t1 : decide (m = n) = false := decide_eq_false hmn
    have t2 : (m == n) = false := beq_eq_false_iff_ne.2 hmn
    have HRf : Hid (r = false) := Lib.hid (by rw [HR.out, t1]; rfl)
    refine wp_region_noPanic ?_
    refine wp_region_held_drew (S := fun w' => w'.cell? ⟨hs, 1, none⟩ = some (.string a) ∧ w'.cell? ⟨hs, 2, none⟩ = some (.int .i64 m) ∧ w'.cell? ⟨hs + 1, 1, none⟩ = some (.string b) ∧ w'.cell? ⟨hs + 1, 2, none⟩ = some (.int .i64 n)) (by kernel_rfl) ⟨c1, c2, d1, d2⟩ (fun hHeld => ?_)
    refine wpAnyH_take (i := 0) (v := ?_) rfl (by kernel_rfl) (by kernel_rfl) (by kernel_rfl) (fun _ _ _ h => h) (Or.inl ⟨by rfl, ?_⟩) (by assumption) ?_
    rotate_left
    · intro w hSw
      obtain ⟨x1, x2, x3, x4⟩ := hSw
      go_simp
      try (with_reducible rfl)
    try simp only [Act.put, List.getElem_toArray, List.getElem_cons_succ, List.getElem_cons_zero, List.setIfInBounds_toArray, List.set_cons_zero, List.set_cons_succ]
    refine wpAnyH_take (i := 1) (v := ?_) rfl (by kernel_rfl) (by kernel_rfl) (by kernel_rfl) (fun _ _ _ h => h) (Or.inl ⟨by rfl, ?_⟩) (by assumption) ?_
    rotate_left
    · intro w hSw
      obtain ⟨x1, x2, x3, x4⟩ := hSw
      go_simp
      try (with_reducible rfl)
    try simp only [Act.put, List.getElem_toArray, List.getElem_cons_succ, List.getElem_cons_zero, List.setIfInBounds_toArray, List.set_cons_zero, List.set_cons_succ]
    refine wpAnyH_take (i := 2) (v := ?_) rfl (by kernel_rfl) (by kernel_rfl) (by kernel_rfl) (fun _ _ _ h => h) (Or.inl ⟨by rfl, ?_⟩) (by assumption) ?_
    rotate_left
    · intro w hSw
      obtain ⟨x1, x2, x3, x4⟩ := hSw
      go_simp
      try (with_reducible rfl)
    try simp only [Act.put, List.getElem_toArray, List.getElem_cons_succ, List.getElem_cons_zero, List.setIfInBounds_toArray, List.set_cons_zero, List.set_cons_succ]
    refine wpAnyH_take (i := 3) (v := ?_) rfl (by kernel_rfl) (by kernel_rfl) (by kernel_rfl) (fun _ _ _ h => h) (Or.inl ⟨by rfl, ?_⟩) (by assumption) ?_
    rotate_left
    · intro w hSw
      obtain ⟨x1, x2, x3, x4⟩ := hSw
      go_simp
      try (with_reducible rfl)
    try simp only [Act.put, List.getElem_toArray, List.getElem_cons_succ, List.getElem_cons_zero, List.setIfInBounds_toArray, List.set_cons_zero, List.set_cons_succ]
    refine wpAnyH_take (i := 4) (v := ?_) rfl (by kernel_rfl) (by kernel_rfl) (by kernel_rfl) (fun _ _ _ h => h) (Or.inl ⟨by rfl, ?_⟩) (by assumption) ?_
    rotate_left
    · intro w hSw
      obtain ⟨x1, x2, x3, x4⟩ := hSw
      go_simp
      try (with_reducible rfl)
    try simp only [Act.put, List.getElem_toArray, List.getElem_cons_succ, List.getElem_cons_zero, List.setIfInBounds_toArray, List.set_cons_zero, List.set_cons_succ]
    refine wpAnyH_take (i := 5) (v := ?_) rfl (by kernel_rfl) (by kernel_rfl) (by kernel_rfl) (fun _ _ _ h => h) (Or.inl ⟨by rfl, ?_⟩) (by assumption) ?_
    rotate_left
    · intro w hSw
      obtain ⟨x1, x2, x3, x4⟩ := hSw
      go_simp
      try (with_reducible rfl)
    try simp only [Act.put, List.getElem_toArray, List.getElem_cons_succ, List.getElem_cons_zero, List.setIfInBounds_toArray, List.set_cons_zero, List.set_cons_succ]
    refine wpAnyH_take (i := 6) (v := undef) rfl (by kernel_rfl) (by kernel_rfl) (by kernel_rfl) (fun _ _ _ h => h) (Or.inr ⟨by rfl, rfl⟩) (by assumption) ?_
    try simp only [Act.put, List.getElem_toArray, List.getElem_cons_succ, List.getElem_cons_zero, List.setIfInBounds_toArray, List.set_cons_zero, List.set_cons_succ]
    refine wpAnyH_take (i := 7) (v := undef) rfl (by kernel_rfl) (by kernel_rfl) (by kernel_rfl) (fun _ _ _ h => h) (Or.inr ⟨by rfl, rfl⟩) (by assumption) ?_
    try simp only [Act.put, List.getElem_toArray, List.getElem_cons_succ, List.getElem_cons_zero, List.setIfInBounds_toArray, List.set_cons_zero, List.set_cons_succ]
    refine wpAnyH_take (i := 8) (v := undef) rfl (by kernel_rfl) (by kernel_rfl) (by kernel_rfl) (fun _ _ _ h => h) (Or.inr ⟨by rfl, rfl⟩) (by assumption) ?_
    try simp only [Act.put, List.getElem_toArray, List.getElem_cons_succ, List.getElem_cons_zero, List.setIfInBounds_toArray, List.set_cons_zero, List.set_cons_succ]
    refine wpAnyH_take (i := 9) (v := undef) rfl (by kernel_rfl) (by kernel_rfl) (by kernel_rfl) (fun _ _ _ h => h) (Or.inr ⟨by rfl, rfl⟩) (by assumption) ?_
    try simp only [Act.put, List.getElem_toArray, List.getElem_cons_succ, List.getElem_cons_zero, List.setIfInBounds_toArray, List.set_cons_zero, List.set_cons_succ]
    refine wpAnyH_take (i := 10) (v := undef) rfl (by kernel_rfl) (by kernel_rfl) (by kernel_rfl) (fun _ _ _ h => h) (Or.inr ⟨by rfl, rfl⟩) (by assumption) ?_
    try simp only [Act.put, List.getElem_toArray, List.getElem_cons_succ, List.getElem_cons_zero, List.setIfInBounds_toArray, List.set_cons_zero, List.set_cons_succ]
    refine wpAnyH_take (i := 11) (v := undef) rfl (by kernel_rfl) (by kernel_rfl) (by kernel_rfl) (fun _ _ _ h => h) (Or.inr ⟨by rfl, rfl⟩) (by assumption) ?_
    try simp only [Act.put, List.getElem_toArray, List.getElem_cons_succ, List.getElem_cons_zero, List.setIfInBounds_toArray, List.set_cons_zero, List.set_cons_succ]
    refine wpAnyH_take (i := 12) (v := undef) rfl (by kernel_rfl) (by kernel_rfl) (by kernel_rfl) (fun _ _ _ h => h) (Or.inr ⟨by rfl, rfl⟩) (by assumption) ?_
    try simp only [Act.put, List.getElem_toArray, List.getElem_cons_succ, List.getElem_cons_zero, List.setIfInBounds_toArray, List.set_cons_zero, List.set_cons_succ]
    refine wpAnyH_take (i := 13) (v := ?_) rfl (by kernel_rfl) (by kernel_rfl) (by kernel_rfl) (fun _ _ _ h => h) (Or.inl ⟨by rfl, ?_⟩) (by assumption) ?_
    rotate_left
    · intro w hSw
      obtain ⟨x1, x2, x3, x4⟩ := hSw
      go_simp
      try (with_reducible rfl)
    try simp only [Act.put, List.getElem_toArray, List.getElem_cons_succ, List.getElem_cons_zero, List.setIfInBounds_toArray, List.set_cons_zero, List.set_cons_succ]
    refine wpAnyH_take (i := 14) (v := ?_) rfl (by kernel_rfl) (by kernel_rfl) (by kernel_rfl) (fun _ _ _ h => h) (Or.inl ⟨by rfl, ?_⟩) (by assumption) ?_
    rotate_left
    · intro w hSw
      obtain ⟨x1, x2, x3, x4⟩ := hSw
      go_simp
      try (with_reducible rfl)
    try simp only [Act.put, List.getElem_toArray, List.getElem_cons_succ, List.getElem_cons_zero, List.setIfInBounds_toArray, List.set_cons_zero, List.set_cons_succ]
    refine wpAnyH_done (by kernel_rfl) ?_ _
    refine NoPanic.normal ?_
    go_wp2
    go_ret
    exact ⟨by rw [HRf.out]; rfl, by rw [hhs]; exact HB0.out.trans ((bl_drewN _ _).mono (by have := HB0.out.size; omega))⟩
end Go.Proofs.YtgjjmhhdncmigaaDoor.X
