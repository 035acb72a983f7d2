/- The package's servers: AddServer, GetActiveServer, ResetServerIndex. -/
import Derived.Test.YtgjjmhhdncmigaaDoorVc
namespace Go.Proofs.YtgjjmhhdncmigaaDoor.X
open Go.RowKit Go.Proofs.YtgjjmhhdncmigaaDoorW.PrintWords Go.Proofs.YtgjjmhhdncmigaaDoorW.PrintMore
attribute [local go_sem] setCell_drewN alloc_drewN
set_option linter.unusedVariables false
set_option linter.unusedSimpArgs false
namespace Sv
theorem same_symm (a b : Srv) : same a b = same b a := by
  unfold same
  rw [decide_eq_decide.2 (eq_comm (a := a.2.2) (b := b.2.2)), decide_eq_decide.2 (eq_comm (a := lowT a.2.1) (b := lowT b.2.1))]
/-- The cells of a DatabaseInfo. -/
def infoC (v : Value) (k : Int) : Array Value := #[.string ⟨#[]⟩, .string ⟨#[]⟩, v, .int .i64 k, .string ⟨#[]⟩, .string ⟨#[]⟩, .string ⟨#[]⟩, .string ⟨#[]⟩, .string ⟨#[]⟩, .int .i64 0, .int .i64 0, .string ⟨#[]⟩, .string ⟨#[]⟩]
/-- All lies as it was but one block and a row's. -/
structure Fr (gi : Nat) (v : Value) (w w' : World) : Prop where
  size : w.heap.size ≤ w'.heap.size
  keep : ∀ k, k < w.heap.size → k ≠ gi → v.ownBlock ≠ some k → w'.heap[k]? = w.heap[k]?
theorem Fr.R {α : Type} {d : Kd α} {e base gi : Nat} {w w' : World} {u v : Value} {xs : List α} (hf : Fr gi v w w') (hE : d.E = []) (h : d.R e w base (fun _ => True) u xs) (hn : u.ownBlock ≠ some gi) (hs : Sep v u) : d.R e w' base (fun _ => True) u xs :=
  Kd.R_mono (Kd.R_step (Kd.R_tight hE h) (fun k hk hl => hf.keep k hl (fun e => hn (by rw [← hk, e])) (fun e => hs k e hk.symm))) (fun _ _ => trivial)
theorem Fr.cell {gi : Nat} {w w' : World} {v : Value} (hf : Fr gi v w w') {g i : Nat} {x : Value} (h : w.cell? ⟨g, i, none⟩ = some x) (hn : g ≠ gi) (hs : v.ownBlock ≠ some g) : w'.cell? ⟨g, i, none⟩ = some x := by
  have hl := World.block_lt_of_cell? w _ h
  unfold World.cell? at h ⊢
  rw [hf.keep g hl hn hs]
  exact h
theorem Fr.below {gi : Nat} {v : Value} {w w1 w2 : World} (hb : Below w.heap.size w w1) (hf : Fr gi v w1 w2) : Fr gi v w w2 :=
  ⟨Nat.le_trans hb.size hf.size, fun k hk h1 h2 => (hf.keep k (Nat.lt_of_lt_of_le hk hb.size) h1 h2).trans (hb.block k hk)⟩
/-- What AddServer leaves behind. -/
def AddP (ta td : TypeId) (base gi : Nat) (k : Int) (v : Value) (all : List Srv) (w w' : World) : Prop :=
  ∃ v', w'.heap[gi]? = some (.cells (infoC v' k) td (0, 0)) ∧ srvKd.R ta w' base (fun _ => True) v' all ∧ Below base w w' ∧ Fr gi v w w' ∧ (v'.ownBlock = v.ownBlock ∨ ∃ b, v'.ownBlock = some b ∧ w.heap.size ≤ b)
theorem addP_same {ta td : TypeId} {base gi : Nat} {k : Int} {v : Value} {all : List Srv} {w w' : World} (hb : Below w.heap.size w w') (hi : w.heap[gi]? = some (.cells (infoC v k) td (0, 0))) (hR : srvKd.R ta w base (fun _ => True) v all) (hg : base ≤ w.heap.size) : AddP ta td base gi k v all w w' :=
  ⟨v, blk_bl hi hb (xb_lt hi), Kd.R_below hR hb, hb.mono hg, ⟨hb.size, fun j hj _ _ => hb.block j hj⟩, .inl rfl⟩
theorem addP_new {ta td : TypeId} {base gi : Nat} {k : Int} {v v7 : Value} {res : List Srv} {w u0 w7 : World} (hw : Below w.heap.size w u0) (hbg : base ≤ gi) (hlt : gi < w.heap.size) (hI7 : w7.heap[gi]? = some (.cells (infoC v k) td (0, 0))) (hR7 : srvKd.R ta w7 base (fun _ => True) v7 res) (hb7 : Below base u0 w7) (hg : u0.grownBy w7 v.ownBlock) (hat : v7.ownBlock = v.ownBlock ∨ ∃ b, v7.ownBlock = some b ∧ u0.heap.size ≤ b) (hvg : v.ownBlock ≠ some gi) : AddP ta td base gi k v res w (w7.setCell ⟨gi, 2, none⟩ v7) := by
  have hs := hw.size
  have hn7 : v7.ownBlock ≠ some gi := by
    rcases hat with h | ⟨b, h, hb⟩
    · rw [h]; exact hvg
    · rw [h]; intro e; have := Option.some.inj e; omega
  have hf : Fr gi (.slice none 0 0) w7 (w7.setCell ⟨gi, 2, none⟩ v7) := ⟨Nat.le_of_eq (World.size_setCell _ _ _).symm, fun j _ hj _ => blk_set_other hj⟩
  refine ⟨v7, xb_set hI7 2 _, hf.R rfl hR7 hn7 (Sep.nil _), ?_, ⟨?_, fun j hj h1 h2 => ?_⟩, ?_⟩
  · exact ((hw.mono (by omega)).trans hb7).setCell hbg _
  · rw [World.size_setCell]; exact Nat.le_trans hs hg.size
  · exact (blk_set_other h1).trans ((hg.block j (by omega) (fun e => h2 e.symm)).trans (hw.block j hj))
  · rcases hat with h | ⟨b, h, hb⟩
    · exact .inl h
    · exact .inr ⟨b, h, by omega⟩
/-- A pointer to a server, or none. -/
def PtrOf (y : Option Srv) (ptr : Option Addr) (w : World) : Prop := match y with
  | none => ptr = none
  | some y => ∃ g o, ptr = some ⟨g, o, none⟩ ∧ w.cell? ⟨g, o, none⟩ = some (.string y.1) ∧ w.cell? ⟨g, o + 1, none⟩ = some (.string y.2.1) ∧ w.cell? ⟨g, o + 2, none⟩ = some (.int .i64 y.2.2)
end Sv
set_option maxHeartbeats 4000000 in
set_option maxRecDepth 100000 in
theorem resetIndex_ok (v : Value) (k : Int) (base gi : Nat) (w : World) (hi : w.heap[gi]? = some (.cells (Sv.infoC v k) 46 (0, 0))) (hb : base ≤ gi) :
    Calls Tryd.prog 20 #[.pointer (some ⟨gi, 0, none⟩)] w fun e w' => e = .returned (.tuple #[]) ∧ w'.heap[gi]? = some (.cells (Sv.infoC v 0) 46 (0, 0)) ∧ Below base w w' ∧ Sv.Fr gi (.slice none 0 0) w w' := by
  have c3 := xb_cell hi 3
  have f3 := blk_free hi 3
  have c3 : w.cell? ⟨gi, 3, none⟩ = some (.int .i64 k) := c3
  have HI := Lib.hid hi
  go_enter Tryd.func20, Tryd.ntmps20
  go_wp2
  go_end0
  exact ⟨rfl, xb_set HI.out 3 _, (Below.refl _ _).setCell hb _, ⟨Nat.le_of_eq (World.size_setCell _ _ _).symm, fun j _ hj _ => blk_set_other hj⟩⟩
set_option maxHeartbeats 4000000 in
set_option maxRecDepth 100000 in
theorem getActive_ok (jump : Bool) (all : List Sv.Srv) (A : Option Addr) (m c at_ k : Nat) (base gi : Nat) (w : World) (hk : k = at_ + (if jump then 1 else 0)) (hi : w.heap[gi]? = some (.cells (Sv.infoC (.slice A m c) at_) 46 (0, 0))) (hC : Sv.srvKd.C w A all.length all) (hm : m = all.length) (hb : base ≤ gi) (hat : at_ ≤ 1000) (hne : ∀ g o, A = some ⟨g, o, none⟩ → g ≠ gi) :
    Calls Tryd.prog 19 #[.pointer (some ⟨gi, 0, none⟩), .bool jump] w fun e w' => ∃ ptr : Option Addr, e = .returned (.pointer ptr) ∧ w'.heap[gi]? = some (.cells (Sv.infoC (.slice A m c) (k : Int)) 46 (0, 0)) ∧ Below base w w' ∧ Sv.Fr gi (.slice none 0 0) w w' ∧ Sv.PtrOf all[k]? ptr w' := by
  obtain ⟨W, hW⟩ : ∃ W, W = if jump then w.setCell ⟨gi, 3, none⟩ (.int .i64 ((at_ : Int) + 1)) else w := ⟨_, rfl⟩
  have HI : Hid (W.heap[gi]? = some (.cells (Sv.infoC (.slice A m c) (k : Int)) 46 (0, 0))) := Lib.hid (by
    subst hk
    cases jump
    · subst hW; exact hi
    · subst hW; exact xb_set hi 3 _)
  have HB : Hid (Below base w W) := Lib.hid (by
    cases jump
    · subst hW; exact Below.refl _ _
    · subst hW; exact (Below.refl _ _).setCell hb _)
  have HF : Hid (Sv.Fr gi (.slice none 0 0) w W) := Lib.hid (by
    cases jump
    · subst hW; exact ⟨Nat.le_refl _, fun _ _ _ _ => rfl⟩
    · subst hW; exact ⟨Nat.le_of_eq (World.size_setCell _ _ _).symm, fun j _ hj _ => blk_set_other hj⟩)
  have d2 : w.cell? ⟨gi, 2, none⟩ = some (.slice A m c) := xb_cell hi 2
  have d3 : w.cell? ⟨gi, 3, none⟩ = some (.int .i64 (at_ : Int)) := xb_cell hi 3
  have e3 := blk_free hi 3
  have c2 : W.cell? ⟨gi, 2, none⟩ = some (.slice A m c) := xb_cell HI.out 2
  have c3 : W.cell? ⟨gi, 3, none⟩ = some (.int .i64 (k : Int)) := xb_cell HI.out 3
  have k0 : (0 : Int) ≤ (k : Int) := Int.natCast_nonneg _
  have a0 : (0 : Int) ≤ (at_ : Int) := Int.natCast_nonneg _
  have hat' : (at_ : Int) + 1 ≤ 1001 := by omega
  by_cases hin : k < m
  · have t1 : decide ((k : Int) ≥ (m : Int)) = false := decide_eq_false (by omega)
    have hin' : (k : Int) < (m : Int) := by omega
    obtain ⟨g, o, rfl, y0, y1, y2⟩ := Sv.srv_at hC k (by omega)
    have hgn := hne g o rfl
    have HY : Hid (Sv.PtrOf all[k]? (some ⟨g, o + k * 3, none⟩) W) := Lib.hid (by
      rw [List.getElem?_eq_getElem (by omega : k < all.length)]
      exact ⟨g, o + k * 3, rfl, HF.out.cell y0 hgn (by simp [Value.ownBlock]), HF.out.cell y1 hgn (by simp [Value.ownBlock]), HF.out.cell y2 hgn (by simp [Value.ownBlock])⟩)
    have HE : Hid (∀ q, (W.drewN q).heap[gi]? = some (.cells (Sv.infoC (.slice (some ⟨g, o, none⟩) m c) (k : Int)) 46 (0, 0)) ∧ Below base w (W.drewN q) ∧ Sv.Fr gi (.slice none 0 0) w (W.drewN q) ∧ Sv.PtrOf all[k]? (some ⟨g, o + k * 3, none⟩) (W.drewN q)) := Lib.hid (fun q => ⟨HI.out, HB.out.trans ((bl_drewN W q).mono (by have h1 := HB.out.size; have h2 := xb_lt hi; omega)), ⟨HF.out.size, HF.out.keep⟩, HY.out⟩)
    clear y0 y1 y2 hne hC hm HY HI HB HF
    cases jump
    · simp only [Bool.false_eq_true, if_false] at hW hk
      subst hW
      obtain rfl : k = at_ := hk
      have t2 : decide (m ≤ k) = false := decide_eq_false (by omega)
      go_enter Tryd.func19, Tryd.ntmps19
      go_wp2
      go_quiet (skip)
      go_simp
      go_wp2
      go_quiet (skip)
      go_simp
      go_wp2
      go_ret
      exact ⟨_, rfl, HE.out _⟩
    · simp only [if_true] at hW hk
      subst hk
      have t2 : decide ((m : Int) ≤ (at_ : Int) + 1) = false := decide_eq_false (by omega)
      have t3 : ((at_ : Int) + 1 < (m : Int)) := by omega
      go_enter Tryd.func19, Tryd.ntmps19
      go_wp2
      subst hW
      go_quiet (skip)
      go_simp
      go_wp2
      go_quiet (skip)
      go_simp
      go_wp2
      go_ret
      exact ⟨_, rfl, HE.out _⟩
  · have HY : Hid (Sv.PtrOf all[k]? none W) := Lib.hid (by rw [List.getElem?_eq_none (by omega)]; exact rfl)
    have HE : Hid (∀ q, (W.drewN q).heap[gi]? = some (.cells (Sv.infoC (.slice A m c) (k : Int)) 46 (0, 0)) ∧ Below base w (W.drewN q) ∧ Sv.Fr gi (.slice none 0 0) w (W.drewN q) ∧ Sv.PtrOf all[k]? none (W.drewN q)) := Lib.hid (fun q => ⟨HI.out, HB.out.trans ((bl_drewN W q).mono (by have h1 := HB.out.size; have h2 := xb_lt hi; omega)), ⟨HF.out.size, HF.out.keep⟩, HY.out⟩)
    clear hne hC hm HY HI HB HF
    cases jump
    · simp only [Bool.false_eq_true, if_false] at hW hk
      subst hW
      obtain rfl : k = at_ := hk
      have t2 : decide (m ≤ k) = true := decide_eq_true (by omega)
      go_enter Tryd.func19, Tryd.ntmps19
      go_wp2
      go_quiet (skip)
      go_simp
      go_wp2
      go_ret
      exact ⟨none, rfl, HE.out _⟩
    · simp only [if_true] at hW hk
      subst hk
      have t2 : decide ((m : Int) ≤ (at_ : Int) + 1) = true := decide_eq_true (by omega)
      go_enter Tryd.func19, Tryd.ntmps19
      go_wp2
      subst hW
      go_quiet (skip)
      go_simp
      go_wp2
      go_ret
      exact ⟨none, rfl, HE.out _⟩
set_option maxHeartbeats 8000000 in
set_option maxRecDepth 100000 in
theorem addServer_ok (all : List Sv.Srv) (x : Sv.Srv) (A : Option Addr) (m c : Nat) (k : Int) (base gi : Nat) (w : World) (hi : w.heap[gi]? = some (.cells (Sv.infoC (.slice A m c) k) 46 (0, 0))) (hR : Sv.srvKd.R 49 w base (fun _ => True) (.slice A m c) all) (hm : m = all.length) (hb : base ≤ gi) (hl : m ≤ 1000) (hok : ∀ y ∈ all, Sv.Ok y) (hx : Sv.Ok x) :
    Calls Tryd.prog 17 #[.pointer (some ⟨gi, 0, none⟩), .agg #[.string x.1, .string x.2.1, .int .i64 x.2.2]] w fun e w' => e = .returned (.tuple #[]) ∧ Sv.AddP 49 46 base gi k (.slice A m c) (if Sv.has all x then all else all ++ [x]) w w' := by
  have infA : (Tryd.prog.info? 49).map (fun i => (i.zero, i.size, i.bytes)) = some (some (.agg #[.string ⟨#[]⟩, .string ⟨#[]⟩, .int .i64 0]), 3, 40) := by kernel_rfl
  have HOk := Lib.hid hok
  have HX := Lib.hid hx
  have HR := Lib.hid hR
  have HI := Lib.hid hi
  have hlt := xb_lt hi
  have HM := Lib.hid hm
  obtain ⟨xp, xa, xn⟩ := x
  simp only at HX ⊢
  obtain ⟨w1, hw1⟩ : ∃ w1, w1 = w.alloc (.cells #[.string xp, .string xa, .int .i64 xn] 49) := ⟨_, rfl⟩
  have HB1 : Hid (Below w.heap.size w w1) := Lib.hid (by rw [hw1]; exact below_alloc (Below.refl _ _) _)
  have hS : ∀ i, w1.cell? ⟨w.heap.size, i, none⟩ = (#[Value.string xp, .string xa, .int .i64 xn])[i]? := fun i => by rw [hw1]; exact xb_cell (xb_new _ _) i
  have hz1 : w1.heap.size = w.heap.size + 1 := by rw [hw1, World.size_alloc]
  have b0 := hS 0
  have b1 := hS 1
  have b2 := hS 2
  simp only [List.getElem?_toArray, List.getElem?_cons_zero, List.getElem?_cons_succ] at b0 b1 b2
  obtain ⟨q, hq⟩ : ∃ q, q = Sv.has all (xp, xa, xn) := ⟨_, rfl⟩
  obtain ⟨res, hres⟩ : ∃ r, r = (if Sv.has all (xp, xa, xn) then all else all ++ [(xp, xa, xn)]) := ⟨_, rfl⟩
  rw [← hres]
  have HQ := Lib.hid hq
  have HRes := Lib.hid hres
  clear hres
  clear hq hok hx hR hi hm hS
  go_enter Tryd.func17, Tryd.ntmps17
  go_wp2
  rw [← hw1]
  go_loopw [4] (fun v4 wr => ∃ j : Nat, v4 = .int .i64 j ∧ j ≤ m ∧ Hid (Below w1.heap.size w1 wr) ∧ Hid (∀ y ∈ all.take j, Sv.same y (xp, xa, xn) = false)) (fun v4 _ => m - (intOf v4).toNat)
  case atStart => exact ⟨0, rfl, Nat.zero_le _, Lib.hid (Below.refl _ _), Lib.hid (by simp)⟩
  case round =>
    obtain ⟨j, rfl, hj, HBr, HA⟩ := hrel
    have HIr : Hid (wr.heap[gi]? = some (.cells (Sv.infoC (.slice A m c) k) 46 (0, 0))) := Lib.hid (blk_bl (blk_bl HI.out HB1.out hlt) HBr.out (by omega))
    have HRr : Hid (Sv.srvKd.R 49 wr base (fun _ => True) (.slice A m c) all) := Lib.hid (Kd.R_below (Kd.R_below HR.out HB1.out) HBr.out)
    have c2 : wr.cell? ⟨gi, 2, none⟩ = some (.slice A m c) := xb_cell HIr.out 2
    have a0 := bl_cell HBr.out b0
    have a1 := bl_cell HBr.out b1
    have a2 := bl_cell HBr.out b2
    by_cases hjm : j < m
    · have hjl : j < all.length := by rw [← HM.out]; exact hjm
      have t2 : decide ((j : Int) < (m : Int)) = true := decide_eq_true (by omega)
      have t3 : (0 : Int) ≤ (j : Int) := Int.natCast_nonneg _
      have t4 : (j : Int) < (m : Int) := by omega
      have hCr : Sv.srvKd.C wr A all.length all := (Kd.R_reads' HRr.out).2.2
      obtain ⟨g0, o0, rfl, s0, s1, s2⟩ := Sv.srv_at hCr j hjl
      have HP : Hid (all.take (j + 1) = all.take j ++ [all[j]]) := Lib.hid (List.take_succ_eq_append_getElem hjl)
      have HMy : Hid (all[j] ∈ all) := Lib.hid (List.getElem_mem hjl)
      generalize all[j] = y at s0 s1 s2 HP HMy
      obtain ⟨yp, ya, yn⟩ := y
      simp only at s0 s1 s2
      have HE : Hid (Calls Tryd.prog 27 #[.pointer (some ⟨w.heap.size, 0, none⟩), .pointer (some ⟨g0, o0 + j * 3, none⟩)] wr fun e w' => e = .returned (.bool (Sv.sameA xa xn ya yn)) ∧ Below wr.heap.size wr w') := Lib.hid (isEqual_ok w.heap.size 0 g0 (o0 + j * 3) xa ya xn yn wr a1 a2 s1 s2 HX.out.2.1 (HOk.out _ HMy.out).2.1 HX.out.2.2 (HOk.out _ HMy.out).2.2)
      obtain ⟨r, hr⟩ : ∃ r, r = Sv.sameA xa xn ya yn := ⟨_, rfl⟩
      rw [← hr] at HE
      have HRq : Hid (Sv.same (yp, ya, yn) (xp, xa, xn) = r) := Lib.hid (by rw [Sv.same_symm, hr]; rfl)
      clear hr hCr
      cases r
      · go_wp2_with (go_at_call 27; (with_reducible refine HE.out.mono ?_); rintro e w4 ⟨rfl, hb4⟩; have HB4 := Lib.hid hb4; clear hb4)
        go_roundw
        case measure => simp [intOf]; omega
        case rel => exact ⟨j + 1, by go_num, by omega, Lib.hid (HBr.out.trans (HB4.out.mono HBr.out.size)), Lib.hid (by
          rw [HP.out]
          intro z hz
          rcases List.mem_append.1 hz with h | h
          · exact HA.out z h
          · rw [List.mem_singleton.1 h]; exact HRq.out)⟩
      · have HQt : Hid (q = true) := Lib.hid (by rw [HQ.out, Sv.has, List.any_eq_true]; exact ⟨_, HMy.out, HRq.out⟩)
        go_wp2_with (go_at_call 27; (with_reducible refine HE.out.mono ?_); rintro e w4 ⟨rfl, hb4⟩; have HB4 := Lib.hid hb4; clear hb4)
        refine bodyPost_ret (v := .tuple #[]) (by simp [results, Tryd.results17, go_sem]) rfl ?_
        refine ⟨rfl, ?_⟩
        have hrs : res = all := by rw [HRes.out, ← HQ.out, HQt.out]; rfl
        rw [hrs]
        have hb : Below w.heap.size w w4 := HB1.out.trans ((bl_trans HBr.out HB4.out).mono HB1.out.size)
        exact Sv.addP_same hb HI.out HR.out (by omega)
    · have hjn : j = m := by omega
      have t2 : decide ((j : Int) < (m : Int)) = false := decide_eq_false (by omega)
      have HQf : Hid (q = false) := Lib.hid (by
        rw [HQ.out, Sv.has, List.any_eq_false]
        intro y hy
        rw [HA.out y (by rw [List.take_of_length_le (by have := HM.out; omega)]; exact hy)]
        decide)
      have d0 : wr.drew.cell? ⟨w.heap.size, 0, none⟩ = some (.string xp) := a0
      have d1 : wr.drew.cell? ⟨w.heap.size, 1, none⟩ = some (.string xa) := a1
      have d2 : wr.drew.cell? ⟨w.heap.size, 2, none⟩ = some (.int .i64 xn) := a2
      have d3 : wr.drew.cell? ⟨gi, 2, none⟩ = some (.slice A m c) := c2
      have HBd : Hid (Below w.heap.size w wr.drew) := Lib.hid (below_drew (HB1.out.trans (HBr.out.mono HB1.out.size)))
      have HRd : Hid (Sv.srvKd.R 49 wr.drew base (fun _ => True) (.slice A m c) all) := Lib.hid (Kd.R_below HRr.out (below_drew (Below.refl _ _)))
      have HId : Hid (wr.drew.heap[gi]? = some (.cells (Sv.infoC (.slice A m c) k) 46 (0, 0))) := Lib.hid HIr.out
      have hvg : (Value.slice A m c).ownBlock ≠ some gi := fun e => Kd.R_ne HR.out HI.out (by decide) e.symm
      have hgw : w.heap.size ≠ gi := by omega
      have hrs : res = all ++ [(xp, xa, xn)] := by rw [HRes.out, ← HQ.out, HQf.out]; rfl
      have hvb : (Value.slice A m c).ownBlock ≠ some w.heap.size := fun e => by have := Kd.R_lt HR.out _ e; omega
      go_wp2
      refine wp_region_noPanic ?_
      refine wp_region_held_drew (S := fun w' => w'.cell? ⟨w.heap.size, 0, none⟩ = some (.string xp) ∧ w'.cell? ⟨w.heap.size, 1, none⟩ = some (.string xa) ∧ w'.cell? ⟨w.heap.size, 2, none⟩ = some (.int .i64 xn)) (by kernel_rfl) ⟨d0, d1, d2⟩ (fun hHeld => ?_)
      generalize wr.drew = u0 at *
      refine wpAnyH_take (i := 0) (v := ?_) rfl (by kernel_rfl) (by kernel_rfl) (by kernel_rfl) (fun _ _ _ h => h) (Or.inl ⟨by rfl, ?_⟩) (by assumption) ?_
      rotate_left
      · intro w hSw
        obtain ⟨x0, x1, x2⟩ := hSw
        go_simp
        try (with_reducible rfl)
      try simp only [Act.put, List.getElem_toArray, List.getElem_cons_succ, List.getElem_cons_zero, List.setIfInBounds_toArray, List.set_cons_zero, List.set_cons_succ]
      refine wpAnyH_take (i := 1) (v := ?_) rfl (by kernel_rfl) (by kernel_rfl) (by kernel_rfl) (fun _ _ _ h => h) (Or.inl ⟨by rfl, ?_⟩) (by assumption) ?_
      rotate_left
      · intro w hSw
        obtain ⟨x0, x1, x2⟩ := hSw
        go_simp
        try (with_reducible rfl)
      try simp only [Act.put, List.getElem_toArray, List.getElem_cons_succ, List.getElem_cons_zero, List.setIfInBounds_toArray, List.set_cons_zero, List.set_cons_succ]
      refine wpAnyH_take (i := 2) (v := ?_) rfl (by kernel_rfl) (by kernel_rfl) (by kernel_rfl) (fun _ _ _ h => h) (Or.inl ⟨by rfl, ?_⟩) (by assumption) ?_
      rotate_left
      · intro w hSw
        obtain ⟨x0, x1, x2⟩ := hSw
        go_simp
        try (with_reducible rfl)
      try simp only [Act.put, List.getElem_toArray, List.getElem_cons_succ, List.getElem_cons_zero, List.setIfInBounds_toArray, List.set_cons_zero, List.set_cons_succ]
      refine wpAnyH_take (i := 3) (v := ?_) rfl (by kernel_rfl) (by kernel_rfl) (by kernel_rfl) (fun _ _ _ h => h) (Or.inl ⟨by rfl, ?_⟩) (by assumption) ?_
      rotate_left
      · intro w hSw
        obtain ⟨x0, x1, x2⟩ := hSw
        go_simp
        try (with_reducible rfl)
      try simp only [Act.put, List.getElem_toArray, List.getElem_cons_succ, List.getElem_cons_zero, List.setIfInBounds_toArray, List.set_cons_zero, List.set_cons_succ]
      refine wpAnyH_take (i := 5) (v := ?_) rfl (by kernel_rfl) (by kernel_rfl) (by kernel_rfl) (fun _ _ _ h => h) (Or.inl ⟨by rfl, ?_⟩) (by assumption) ?_
      rotate_left
      · intro w hSw
        obtain ⟨x0, x1, x2⟩ := hSw
        go_simp
        try (with_reducible rfl)
      try simp only [Act.put, List.getElem_toArray, List.getElem_cons_succ, List.getElem_cons_zero, List.setIfInBounds_toArray, List.set_cons_zero, List.set_cons_succ]
      refine wpAnyH_ready (rs := [4, 6]) (by kernel_rfl) (by simp) ?_
      refine AllReadyH.cons (o := _) rfl (fun K hK => ?_) ?_
      · go_simp
        refine hK.out _ _ ⟨d0, d1, d2⟩ (fun hHeld => ?_)
        clear hK K
        try simp only [Act.put, List.getElem_toArray, List.getElem_cons_succ, List.getElem_cons_zero, List.setIfInBounds_toArray, List.set_cons_zero, List.set_cons_succ]
        refine wpAnyH_ready (rs := [6]) (by kernel_rfl) (by simp) ?_
        refine AllReadyH.cons (o := _) rfl (fun K hK => ?_) ?_
        · go_simp
          refine hK.out _ _ ⟨cell_alloc _ d0, cell_alloc _ d1, cell_alloc _ d2⟩ (fun hHeld => ?_)
          clear hK K
          try simp only [Act.put, List.getElem_toArray, List.getElem_cons_succ, List.getElem_cons_zero, List.setIfInBounds_toArray, List.set_cons_zero, List.set_cons_succ]
          refine wpAnyH_ready (rs := [7]) (by kernel_rfl) (by simp) ?_
          refine AllReadyH.cons (o := _) rfl (fun K hK => ?_) ?_
          · refine Kd.R_append_step Sv.srvKd (w0 := u0) base (by rfl) (.tmp 25) (.tmp 27) 42 49 _ 40 rfl Tryd.underlying42 infA rfl (by decide) (by decide) (.slice A m c) all (xp, xa, xn) [.string xp, .string xa, .int .i64 xn] (fun _ => True) (fun k => False) rfl rfl (Sv.srv_make _ _ _ _ _ _) (fun k hk => absurd hk id) (fun _ _ => trivial) HRd.out (Below.refl _ _) (by have := HBd.out.size; omega) (by have := HM.out; omega) ?_
            intro v7 w7 ho hb7 hg hat
            obtain ⟨A7, c7, e7⟩ := Kd.R_slice ho
            rw [show (all ++ [(xp, xa, xn)]).length = all.length + 1 from by simp] at e7
            subst e7
            have hI7 := (hg.block gi (by have := HBd.out.size; omega) (fun e => hvg e.symm)).trans HId.out
            have z2 : w7.cell? ⟨gi, 2, none⟩ = some (.slice A m c) := xb_cell hI7 2
            have f2 := blk_free hI7 2
            have HG := Lib.hid hg
            have HAt := Lib.hid hat
            have HI7 := Lib.hid hI7
            have HO7 := Lib.hid ho
            have HB7 := Lib.hid hb7
            have y0 := Sv.grown_cell hg d0 hvb
            have y1 := Sv.grown_cell hg d1 hvb
            have y2 := Sv.grown_cell hg d2 hvb
            refine hK.out _ _ ⟨y0, y1, y2⟩ (fun hHeld => ?_)
            clear hK K
            try simp only [Act.put, List.getElem_toArray, List.getElem_cons_succ, List.getElem_cons_zero, List.setIfInBounds_toArray, List.set_cons_zero, List.set_cons_succ]
            refine wpAnyH_take (i := 8) (v := ?_) rfl (by kernel_rfl) (by kernel_rfl) (by kernel_rfl) (fun _ _ _ h => h) (Or.inl ⟨by rfl, ?_⟩) (by assumption) ?_
            rotate_left
            · intro w hSw
              obtain ⟨x0, x1, x2⟩ := hSw
              go_simp
              try (with_reducible rfl)
            try simp only [Act.put, List.getElem_toArray, List.getElem_cons_succ, List.getElem_cons_zero, List.setIfInBounds_toArray, List.set_cons_zero, List.set_cons_succ]
            refine wpAnyH_take (i := 9) (v := ?_) rfl (by kernel_rfl) (by kernel_rfl) (by kernel_rfl) (fun _ _ _ h => h) (Or.inl ⟨by rfl, ?_⟩) (by assumption) ?_
            rotate_left
            · intro w hSw
              obtain ⟨x0, x1, x2⟩ := hSw
              go_simp
              try (with_reducible rfl)
            try simp only [Act.put, List.getElem_toArray, List.getElem_cons_succ, List.getElem_cons_zero, List.setIfInBounds_toArray, List.set_cons_zero, List.set_cons_succ]
            refine wpAnyH_ready (rs := [10]) (by kernel_rfl) (by simp) ?_
            refine AllReadyH.cons (o := _) rfl (fun K hK => ?_) ?_
            · clear hI7 hg hat ho hb7
              go_simp
              refine hK.out _ _ ⟨(set_far hgw).trans y0, (set_far hgw).trans y1, (set_far hgw).trans y2⟩ (fun hHeld => ?_)
              clear hK K
              try simp only [Act.put, List.getElem_toArray, List.getElem_cons_succ, List.getElem_cons_zero, List.setIfInBounds_toArray, List.set_cons_zero, List.set_cons_succ]
              refine wpAnyH_done (by kernel_rfl) ?_ _
              refine NoPanic.normal ?_
              go_wp2
              go_end0
              refine ⟨rfl, ?_⟩
              rw [hrs]
              exact Sv.addP_new HBd.out hb hlt HI7.out HO7.out HB7.out HG.out HAt.out hvg
            exact AllReadyH.nil
          exact AllReadyH.nil
        exact AllReadyH.nil
      refine AllReadyH.cons (o := _) rfl (fun K hK => ?_) ?_
      · go_simp
        refine hK.out _ _ ⟨cell_alloc _ d0, cell_alloc _ d1, cell_alloc _ d2⟩ (fun hHeld => ?_)
        clear hK K
        try simp only [Act.put, List.getElem_toArray, List.getElem_cons_succ, List.getElem_cons_zero, List.setIfInBounds_toArray, List.set_cons_zero, List.set_cons_succ]
        refine wpAnyH_ready (rs := [4]) (by kernel_rfl) (by simp) ?_
        refine AllReadyH.cons (o := _) rfl (fun K hK => ?_) ?_
        · have d4 := cell_alloc (.cells #[.string xp, .string xa, .int .i64 xn] 49) d3
          go_simp
          refine hK.out _ _ ⟨cell_alloc _ d0, cell_alloc _ d1, cell_alloc _ d2⟩ (fun hHeld => ?_)
          clear hK K
          try simp only [Act.put, List.getElem_toArray, List.getElem_cons_succ, List.getElem_cons_zero, List.setIfInBounds_toArray, List.set_cons_zero, List.set_cons_succ]
          refine wpAnyH_ready (rs := [7]) (by kernel_rfl) (by simp) ?_
          refine AllReadyH.cons (o := _) rfl (fun K hK => ?_) ?_
          · refine Kd.R_append_step Sv.srvKd (w0 := u0) base (by rfl) (.tmp 25) (.tmp 27) 42 49 _ 40 rfl Tryd.underlying42 infA rfl (by decide) (by decide) (.slice A m c) all (xp, xa, xn) [.string xp, .string xa, .int .i64 xn] (fun _ => True) (fun k => False) rfl rfl (Sv.srv_make _ _ _ _ _ _) (fun k hk => absurd hk id) (fun _ _ => trivial) HRd.out (Below.refl _ _) (by have := HBd.out.size; omega) (by have := HM.out; omega) ?_
            intro v7 w7 ho hb7 hg hat
            obtain ⟨A7, c7, e7⟩ := Kd.R_slice ho
            rw [show (all ++ [(xp, xa, xn)]).length = all.length + 1 from by simp] at e7
            subst e7
            have hI7 := (hg.block gi (by have := HBd.out.size; omega) (fun e => hvg e.symm)).trans HId.out
            have z2 : w7.cell? ⟨gi, 2, none⟩ = some (.slice A m c) := xb_cell hI7 2
            have f2 := blk_free hI7 2
            have HG := Lib.hid hg
            have HAt := Lib.hid hat
            have HI7 := Lib.hid hI7
            have HO7 := Lib.hid ho
            have HB7 := Lib.hid hb7
            have y0 := Sv.grown_cell hg d0 hvb
            have y1 := Sv.grown_cell hg d1 hvb
            have y2 := Sv.grown_cell hg d2 hvb
            refine hK.out _ _ ⟨y0, y1, y2⟩ (fun hHeld => ?_)
            clear hK K
            try simp only [Act.put, List.getElem_toArray, List.getElem_cons_succ, List.getElem_cons_zero, List.setIfInBounds_toArray, List.set_cons_zero, List.set_cons_succ]
            refine wpAnyH_take (i := 8) (v := ?_) rfl (by kernel_rfl) (by kernel_rfl) (by kernel_rfl) (fun _ _ _ h => h) (Or.inl ⟨by rfl, ?_⟩) (by assumption) ?_
            rotate_left
            · intro w hSw
              obtain ⟨x0, x1, x2⟩ := hSw
              go_simp
              try (with_reducible rfl)
            try simp only [Act.put, List.getElem_toArray, List.getElem_cons_succ, List.getElem_cons_zero, List.setIfInBounds_toArray, List.set_cons_zero, List.set_cons_succ]
            refine wpAnyH_take (i := 9) (v := ?_) rfl (by kernel_rfl) (by kernel_rfl) (by kernel_rfl) (fun _ _ _ h => h) (Or.inl ⟨by rfl, ?_⟩) (by assumption) ?_
            rotate_left
            · intro w hSw
              obtain ⟨x0, x1, x2⟩ := hSw
              go_simp
              try (with_reducible rfl)
            try simp only [Act.put, List.getElem_toArray, List.getElem_cons_succ, List.getElem_cons_zero, List.setIfInBounds_toArray, List.set_cons_zero, List.set_cons_succ]
            refine wpAnyH_ready (rs := [10]) (by kernel_rfl) (by simp) ?_
            refine AllReadyH.cons (o := _) rfl (fun K hK => ?_) ?_
            · clear hI7 hg hat ho hb7
              go_simp
              refine hK.out _ _ ⟨(set_far hgw).trans y0, (set_far hgw).trans y1, (set_far hgw).trans y2⟩ (fun hHeld => ?_)
              clear hK K
              try simp only [Act.put, List.getElem_toArray, List.getElem_cons_succ, List.getElem_cons_zero, List.setIfInBounds_toArray, List.set_cons_zero, List.set_cons_succ]
              refine wpAnyH_done (by kernel_rfl) ?_ _
              refine NoPanic.normal ?_
              go_wp2
              go_end0
              refine ⟨rfl, ?_⟩
              rw [hrs]
              exact Sv.addP_new HBd.out hb hlt HI7.out HO7.out HB7.out HG.out HAt.out hvg
            exact AllReadyH.nil
          exact AllReadyH.nil
        exact AllReadyH.nil
      exact AllReadyH.nil
end Go.Proofs.YtgjjmhhdncmigaaDoor.X
