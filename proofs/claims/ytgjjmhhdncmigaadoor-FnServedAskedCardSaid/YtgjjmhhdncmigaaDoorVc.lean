/- The reference's steps of servers. -/
import Derived.Test.YtgjjmhhdncmigaaDoorVb
namespace Go.Proofs.YtgjjmhhdncmigaaDoor.X
open Go.RowKit Go.Proofs.YtgjjmhhdncmigaaDoorW.PrintWords Go.Proofs.YtgjjmhhdncmigaaDoorW.PrintMore
attribute [local go_sem] setCell_drewN alloc_drewN
set_option linter.unusedVariables false
set_option linter.unusedSimpArgs false
namespace Sv
/-- Two rows don't share their block. -/
def Sep (v u : Value) : Prop := ∀ k, v.ownBlock = some k → u.ownBlock ≠ some k
theorem Sep.symm {v u : Value} (h : Sep v u) : Sep u v := fun k hk e => h k e hk
theorem Sep.nil (u : Value) : Sep (.slice none 0 0) u := fun k hk => by simp [Value.ownBlock] at hk
theorem Sep.new {v v1 u : Value} {W : World} (hs : Sep v u) (hat : v1.ownBlock = v.ownBlock ∨ ∃ b, v1.ownBlock = some b ∧ W.heap.size ≤ b) (hlt : ∀ k, u.ownBlock = some k → k < W.heap.size) : Sep v1 u := fun k hk e => by
  rcases hat with h | ⟨b, h, hb⟩
  · exact hs k (h ▸ hk) e
  · have := hlt k e
    rw [h] at hk
    obtain rfl := Option.some.inj hk
    omega
theorem R_keep2 {α : Type} {d : Kd α} {e base : Nat} {ok : Nat → Prop} {W w1 : World} {u v : Value} {xs : List α} (h : d.R e W base ok u xs) (hE : d.E = []) (hg : W.grownBy w1 v.ownBlock) (hs : Sep v u) : d.R e w1 base ok u xs :=
  Kd.R_grown2 h hE hg (fun k hk e => hs k hk e.symm)
theorem grown_cell {W w1 : World} {row : Option Nat} (hg : W.grownBy w1 row) {g i : Nat} {v : Value} (h : W.cell? ⟨g, i, none⟩ = some v) (hne : row ≠ some g) : w1.cell? ⟨g, i, none⟩ = some v := by
  have hl := World.block_lt_of_cell? W _ h
  unfold World.cell? at h ⊢
  rw [hg.block g hl (fun e => hne e.symm)]
  exact h
theorem below_cells {B : Nat} {w0 : World} : ∀ (vs : List Value) (w : World) (g o : Nat), Below B w0 w → B ≤ g → Below B w0 (w.setCells g o vs)
  | [], _, _, _, h, _ => h
  | v :: vs, w, g, o, h, hg => below_cells vs (w.setCell ⟨g, o, none⟩ v) g (o + 1) (h.setCell hg _) hg
end Sv
set_option maxHeartbeats 4000000 in
set_option maxRecDepth 100000 in
theorem served1_ok (y s : Sv.Srv) (gs : Nat) (w : World) (c1 : w.cell? ⟨gs, 1, none⟩ = some (.string s.1)) (c2 : w.cell? ⟨gs, 2, none⟩ = some (.string s.2.1)) (c3 : w.cell? ⟨gs, 3, none⟩ = some (.int .i64 s.2.2)) (ha : y.2.1.size ≤ 300) (hb : s.2.1.size ≤ 300) :
    Calls Tryd.prog 15 #[.agg #[.string y.1, .string y.2.1, .int .i64 y.2.2], .pointer (some ⟨gs, 0, none⟩)] w fun e w' => e = .returned (.bool (Sv.same y s)) ∧ Below w.heap.size w w' := by
  have HS := Lib.hid (fun W => serversEqual_ok y s W ha hb)
  obtain ⟨r, hr⟩ : ∃ r, r = Sv.same y s := ⟨_, rfl⟩
  rw [← hr] at HS ⊢
  clear hr ha hb
  have d1 := cell_alloc (.cells #[.string y.1, .string y.2.1, .int .i64 y.2.2] 30) c1
  have d2 := cell_alloc (.cells #[.string y.1, .string y.2.1, .int .i64 y.2.2] 30) c2
  have d3 := cell_alloc (.cells #[.string y.1, .string y.2.1, .int .i64 y.2.2] 30) c3
  obtain ⟨p, a, m⟩ := y
  obtain ⟨q, b, n⟩ := s
  simp only at HS c1 c2 c3 d1 d2 d3 ⊢
  go_enter Tryd.func15, Tryd.ntmps15
  go_wp2_with (go_at_call 16; (with_reducible refine (HS.out _).mono ?_); rintro e w4 ⟨rfl, hb4⟩; have HB4 := Lib.hid hb4; clear hb4)
  go_ret
  exact ⟨rfl, (below_alloc (Below.refl _ _) _).trans (HB4.out.mono (by rw [World.size_alloc]; omega))⟩
set_option maxHeartbeats 4000000 in
set_option maxRecDepth 100000 in
theorem containsFunc_ok (l : List Sv.Srv) (s : Sv.Srv) (A : Option Addr) (cA gs : Nat) (w : World) (hC : Sv.srvKd.C w A l.length l) (c1 : w.cell? ⟨gs, 1, none⟩ = some (.string s.1)) (c2 : w.cell? ⟨gs, 2, none⟩ = some (.string s.2.1)) (c3 : w.cell? ⟨gs, 3, none⟩ = some (.int .i64 s.2.2)) (ha : ∀ y ∈ l, y.2.1.size ≤ 300) (hb : s.2.1.size ≤ 300) :
    Calls Tryd.prog 14 #[.slice A l.length cA, .func (.func 15) #[] #[.pointer (some ⟨gs, 0, none⟩)]] w fun e w' => e = .returned (.bool (Sv.has l s)) ∧ Below w.heap.size w w' := by
  have HC := Lib.hid hC
  have HA := Lib.hid ha
  have H1 : Hid (∀ (y : Sv.Srv) (W : World), y ∈ l → Below w.heap.size w W → Calls Tryd.prog 15 #[.agg #[.string y.1, .string y.2.1, .int .i64 y.2.2], .pointer (some ⟨gs, 0, none⟩)] W fun e w' => e = .returned (.bool (Sv.same y s)) ∧ Below W.heap.size W w') := Lib.hid (fun y W hy hW => served1_ok y s gs W (bl_cell hW c1) (bl_cell hW c2) (bl_cell hW c3) (ha y hy) hb)
  have hmx := Kd.C_max hC
  obtain ⟨n, hnl⟩ : ∃ n, n = l.length := ⟨_, rfl⟩
  have HN := Lib.hid hnl
  rw [← hnl] at hmx ⊢
  clear hC hnl ha hb c1 c2 c3
  obtain ⟨r, hr⟩ : ∃ r, r = Sv.has l s := ⟨_, rfl⟩
  rw [← hr]
  have HR := Lib.hid hr
  clear hr
  go_enter Tryd.func14, Tryd.ntmps14
  go_wp2
  go_loopw [8] (fun v8 wr => ∃ j : Nat, v8 = .int .i64 j ∧ j ≤ n ∧ Hid (Below w.heap.size w wr) ∧ Hid (∀ y ∈ l.take j, Sv.same y s = false)) (fun v8 _ => n - (intOf v8).toNat)
  case atStart => exact ⟨0, rfl, Nat.zero_le _, Lib.hid (Below.refl _ _), Lib.hid (by simp)⟩
  case round =>
    obtain ⟨j, rfl, hj, HB, HF⟩ := hrel
    by_cases hlt : j < n
    · have hjl : j < l.length := by rw [← HN.out]; exact hlt
      have t2 : decide ((j : Int) < (n : Int)) = true := decide_eq_true (by omega)
      have t3 : decide (0 ≤ (j : Int)) = true := decide_eq_true (by omega)
      obtain ⟨g0, o0, rfl, s0, s1, s2⟩ := Sv.srv_at (Kd.C_below HC.out HB.out) j hjl
      have HP : Hid (l.take (j + 1) = l.take j ++ [l[j]]) := Lib.hid (List.take_succ_eq_append_getElem hjl)
      have HM : Hid (l[j] ∈ l) := Lib.hid (List.getElem_mem hjl)
      generalize l[j] = y at s0 s1 s2 HP HM
      have HY : Hid (∀ W : World, Below w.heap.size w W → Calls Tryd.prog 15 #[.agg #[.string y.1, .string y.2.1, .int .i64 y.2.2], .pointer (some ⟨gs, 0, none⟩)] W fun e w' => e = .returned (.bool (Sv.same y s)) ∧ Below W.heap.size W w') := Lib.hid (fun W hW => H1.out y W HM.out hW)
      obtain ⟨q, hq⟩ : ∃ q, q = Sv.same y s := ⟨_, rfl⟩
      rw [← hq] at HY
      have HQ := Lib.hid hq
      clear hq
      cases q
      · go_wp2_with (go_at_call 15; (with_reducible refine (HY.out _ HB.out).mono ?_); rintro e w4 ⟨rfl, hb4⟩; have HB4 := Lib.hid hb4; clear hb4)
        go_roundw
        case measure => simp [intOf]; omega
        case rel => exact ⟨j + 1, by go_num, by omega, Lib.hid (HB.out.trans (HB4.out.mono HB.out.size)), Lib.hid (by
          rw [HP.out]
          intro x hx
          rcases List.mem_append.1 hx with h | h
          · exact HF.out x h
          · rw [List.mem_singleton.1 h]; exact HQ.out.symm)⟩
      · have HRt : Hid (r = true) := Lib.hid (by rw [HR.out, Sv.has, List.any_eq_true]; exact ⟨y, HM.out, HQ.out.symm⟩)
        go_wp2_with (go_at_call 15; (with_reducible refine (HY.out _ HB.out).mono ?_); rintro e w4 ⟨rfl, hb4⟩; have HB4 := Lib.hid hb4; clear hb4)
        go_ret
        exact ⟨by rw [HRt.out]; rfl, HB.out.trans (HB4.out.mono HB.out.size)⟩
    · have hjn : j = n := by omega
      have t2 : decide ((j : Int) < (n : Int)) = false := decide_eq_false (by omega)
      have HRf : Hid (r = false) := Lib.hid (by
        rw [HR.out, Sv.has, List.any_eq_false]
        intro y hy
        rw [HF.out y (by rw [List.take_of_length_le (by have := HN.out; omega)]; exact hy)]
        decide)
      go_wp2
      go_ret
      exact ⟨by rw [HRf.out]; rfl, HB.out⟩
namespace Sv
/-- What the reference's steps give: nothing is said, or the rows. -/
def SpecR (ts tb : TypeId) (l : List Stp) (base : Nat) (e : Ending) (w : World) : Prop :=
  e = .returned (.tuple #[.slice none 0 0, .slice none 0 0, .slice none 0 0, .bool false]) ∨
  ∃ v1 v2 v3, e = .returned (.tuple #[v1, v2, v3, .bool true]) ∧ srvKd.R ts w base (fun _ => True) v1 (gots l) ∧ Kd.bool.R tb w base (fun _ => True) v2 (oks l) ∧ srvKd.R ts w base (fun _ => True) v3 (st l).1
end Sv
set_option maxHeartbeats 8000000 in
set_option maxRecDepth 100000 in
theorem specServed_ok (l : List Sv.Stp) (A : Option Addr) (cA : Nat) (w : World) (hC : Sv.stpKd.C w A l.length l) (hn : l.length ≤ 100) (hok : ∀ x ∈ l, Sv.Ok x.2) :
    Calls Tryd.prog 8 #[.slice A l.length cA] w fun e w' => Sv.SpecR 30 4 l w.heap.size e w' ∧ Below w.heap.size w w' := by
  have infS : (Tryd.prog.info? 30).map (fun i => (i.zero, i.size, i.bytes)) = some (some (.agg #[.string ⟨#[]⟩, .string ⟨#[]⟩, .int .i64 0]), 3, 40) := by kernel_rfl
  have infB : (Tryd.prog.info? 4).map (fun i => (i.zero, i.size, i.bytes)) = some (some (.bool false), 1, 1) := by kernel_rfl
  have hmf : ∀ (fn : Fn) (first cap : Array Value) (w : World), (Instr.makeFunc fn first cap).run Tryd.prog w = .ok (.func fn first cap) w := fun _ _ _ _ => rfl
  have HC := Lib.hid hC
  have HOk := Lib.hid hok
  obtain ⟨n, hnl⟩ : ∃ n, n = l.length := ⟨_, rfl⟩
  have HN := Lib.hid hnl
  rw [← hnl] at hn ⊢
  clear hC hok hnl
  go_enter Tryd.func8, Tryd.ntmps8
  go_wp2
  go_loopw [6, 7, 8, 9, 17] (fun v6 v7 v8 v9 v17 wr => ∃ (j at_ : Nat) (all : List Sv.Srv), v17 = .int .i64 j ∧ j ≤ n ∧ v9 = .int .i64 at_ ∧ Hid (Sv.st (l.take j) = (all, at_)) ∧ Hid (Sv.srvKd.R 30 wr w.heap.size (fun _ => True) v6 (Sv.gots (l.take j))) ∧ Hid (Sv.srvKd.R 30 wr w.heap.size (fun _ => True) v7 all) ∧ Hid (Kd.bool.R 4 wr w.heap.size (fun _ => True) v8 (Sv.oks (l.take j))) ∧ Hid (Sv.Sep v6 v7) ∧ Hid (Sv.Sep v6 v8) ∧ Hid (Sv.Sep v7 v8) ∧ Hid (Below w.heap.size w wr)) (fun _ _ _ _ v17 _ => n - (intOf v17).toNat)
  case atStart => exact ⟨0, 0, [], rfl, Nat.zero_le _, rfl, Lib.hid (by simp [Sv.st]), Lib.hid (by rw [List.take_zero]; exact Kd.R_nil _ _ _ _ _), Lib.hid (Kd.R_nil _ _ _ _ _), Lib.hid (by rw [List.take_zero]; exact Kd.R_nil _ _ _ _ _), Lib.hid (Sv.Sep.nil _), Lib.hid (Sv.Sep.nil _), Lib.hid (Sv.Sep.nil _), Lib.hid (Below.refl _ _)⟩
  case round =>
    obtain ⟨j, at_, all, rfl, hj, rfl, HSt, HR6, HR7, HR8, HS67, HS68, HS78, HB⟩ := hrel
    by_cases hlt : j < n
    · have hjl : j < l.length := by rw [← HN.out]; exact hlt
      have t2 : decide ((j : Int) < (n : Int)) = true := decide_eq_true (by omega)
      obtain ⟨g0, o0, rfl, s0, s1, s2, s3⟩ := Sv.stp_at (Kd.C_below HC.out HB.out) j hjl
      have HP : Hid (l.take (j + 1) = l.take j ++ [l[j]]) := Lib.hid (List.take_succ_eq_append_getElem hjl)
      have HM : Hid (l[j] ∈ l) := Lib.hid (List.getElem_mem hjl)
      have hst := Sv.st_len (l.take j)
      rw [HSt.out, List.length_take] at hst
      have HMem : Hid (∀ y ∈ all, Sv.Ok y) := Lib.hid (by
        have h := Sv.st_mem (P := Sv.Ok) (l.take j) (fun x hx => HOk.out x (List.mem_of_mem_take hx))
        rw [HSt.out] at h
        exact h)
      generalize l[j] = p at s0 s1 s2 s3 HP HM
      obtain ⟨kd, pr, ad, po⟩ := p
      have HOp : Hid (Sv.Ok (pr, ad, po)) := Lib.hid (HOk.out _ HM.out)
      simp only at s0 s1 s2 s3 hst
      obtain ⟨hst1, hst2⟩ := hst
      obtain ⟨A7, c7, e7, hc7, hC7⟩ := Kd.R_reads HR7.out
      have HC7 := Lib.hid hC7
      obtain ⟨m, hm⟩ : ∃ m, m = all.length := ⟨_, rfl⟩
      rw [← hm] at e7 hc7 hst1
      have HMl := Lib.hid hm
      clear hC7 hm
      subst e7
      have a0 : (0 : Int) ≤ (at_ : Int) := Int.natCast_nonneg _
      have m0 : (0 : Int) ≤ (m : Int) := Int.natCast_nonneg _
      have hat1 : (at_ : Int) + 1 ≤ 1000 := by omega
      by_cases k0 : kd = 0
      · subst k0
        have hS0 : ∀ k, ((wr.alloc (.cells #[.int .i64 0, .string pr, .string ad, .int .i64 po] 32)).alloc (.cells #[.string ⟨#[]⟩, .string ⟨#[]⟩, .int .i64 0] 30)).cell? ⟨wr.heap.size, k, none⟩ = (#[Value.int .i64 0, .string pr, .string ad, .int .i64 po])[k]? := fun k => xb_cell (xb_alloc (xb_new _ _)) k
        have hX : ∀ k, ((wr.alloc (.cells #[.int .i64 0, .string pr, .string ad, .int .i64 po] 32)).alloc (.cells #[.string ⟨#[]⟩, .string ⟨#[]⟩, .int .i64 0] 30)).cell? ⟨wr.heap.size + 1, k, none⟩ = (#[Value.string ⟨#[]⟩, .string ⟨#[]⟩, .int .i64 0])[k]? := fun k => by
          have h := xb_cell (xb_new (wr.alloc (.cells #[.int .i64 0, .string pr, .string ad, .int .i64 po] 32)) (.cells #[.string ⟨#[]⟩, .string ⟨#[]⟩, .int .i64 0] 30)) k
          rw [World.size_alloc] at h
          exact h
        have hP1 := hS0 1
        have hP2 := hS0 2
        have hP3 := hS0 3
        have hX0 := hX 0
        have hX1 := hX 1
        have hX2 := hX 2
        clear hS0 hX
        simp only [List.getElem?_toArray, List.getElem?_cons_zero, List.getElem?_cons_succ] at hP1 hP2 hP3 hX0 hX1 hX2
        obtain ⟨q, hq⟩ : ∃ q, q = Sv.has all (pr, ad, po) := ⟨_, rfl⟩
        have HQ := Lib.hid hq
        have HCF : Hid (Calls Tryd.prog 14 #[.slice A7 m c7, .func (.func 15) #[] #[.pointer (some ⟨wr.heap.size, 0, none⟩)]] ((wr.alloc (.cells #[.int .i64 0, .string pr, .string ad, .int .i64 po] 32)).alloc (.cells #[.string ⟨#[]⟩, .string ⟨#[]⟩, .int .i64 0] 30)) fun e w' => e = .returned (.bool q) ∧ Below ((wr.alloc (.cells #[.int .i64 0, .string pr, .string ad, .int .i64 po] 32)).alloc (.cells #[.string ⟨#[]⟩, .string ⟨#[]⟩, .int .i64 0] 30)).heap.size ((wr.alloc (.cells #[.int .i64 0, .string pr, .string ad, .int .i64 po] 32)).alloc (.cells #[.string ⟨#[]⟩, .string ⟨#[]⟩, .int .i64 0] 30)) w') := Lib.hid (by
          have h := containsFunc_ok all (pr, ad, po) A7 c7 wr.heap.size ((wr.alloc (.cells #[.int .i64 0, .string pr, .string ad, .int .i64 po] 32)).alloc (.cells #[.string ⟨#[]⟩, .string ⟨#[]⟩, .int .i64 0] 30)) (Kd.C_below HC7.out (below_alloc (below_alloc (Below.refl wr.heap.size wr) _) _)) hP1 hP2 hP3 (fun y hy => (HMem.out y hy).2.1) HOp.out.2.1
          rw [← HMl.out, ← hq] at h
          exact h)
        clear hq
        cases q
        · by_cases h0 : at_ = 0
          · subst h0
            have t3 : decide (((0 : Nat) : Int) > 0) = false := decide_eq_false (by omega)
            go_wp2_with (first
              | (go_at_call 14; (with_reducible refine HCF.out.mono ?_); rintro e w4 ⟨rfl, hb4⟩; have hW4 : Below wr.heap.size wr w4 := (below_alloc (below_alloc (Below.refl wr.heap.size wr) _) _).trans (hb4.mono (by rw [World.size_alloc, World.size_alloc]; omega)); have x0 := bl_cell hb4 hX0; have x1 := bl_cell hb4 hX1; have x2 := bl_cell hb4 hX2; have p1 := bl_cell hb4 hP1; have p2 := bl_cell hb4 hP2; have p3 := bl_cell hb4 hP3; have HR6w : Hid (Sv.srvKd.R 30 (w4) w.heap.size (fun _ => True) u6 (Sv.gots (l.take j))) := Lib.hid (Kd.R_below HR6.out hW4); have HR7w : Hid (Sv.srvKd.R 30 (w4) w.heap.size (fun _ => True) (.slice A7 m c7) all) := Lib.hid (Kd.R_below HR7.out hW4); have HR8w : Hid (Kd.bool.R 4 (w4) w.heap.size (fun _ => True) u8 (Sv.oks (l.take j))) := Lib.hid (Kd.R_below HR8.out hW4); have HBw : Hid (Below w.heap.size w (w4)) := Lib.hid (HB.out.trans ((hW4).mono HB.out.size)); have HSz : Hid (wr.heap.size + 1 < w4.heap.size) := Lib.hid (by have := hb4.size; rw [World.size_alloc, World.size_alloc] at this; omega); clear hb4 hW4)
              | ((with_reducible refine gate_builtin (b := .append) (xs := #[.tmp 42, .tmp 45]) rfl ?_); at_builtin; refine Kd.R_append Sv.srvKd (w0 := w) w.heap.size rfl (.tmp 42) (.tmp 45) 25 30 _ 40 rfl Tryd.underlying25 infS rfl (by decide) (by decide) (.slice A7 m c7) all (pr, ad, po) [.string pr, .string ad, .int .i64 po] (fun _ => True) (fun k => False) ?aV ?aX ?aP ?aK (fun _ _ => trivial) ?aO ?aB ?aS ?aL ?_; (case aV => exact rfl); (case aX => first | exact rfl | (simp only [World.size_alloc, World.size_setCell]; exact rfl) | (rw [(Kd.setCells_same _ _ _ _).2.2.2]; simp only [World.size_alloc]; exact rfl)); (case aP => exact Sv.srv_make _ _ _ _ _ _); (case aK => exact fun k hk => absurd hk id); (case aO => exact HR7w.out); (case aB => exact HBw.out); (case aS => exact HBw.out.size); (case aL => (have := HMl.out; omega)); intro v12 w12 ho hb hg hat; have hne : (Value.slice A7 m c7).ownBlock ≠ some (wr.heap.size + 1) := fun e => (by have := Kd.R_lt HR7.out _ e; omega); replace x0 := Sv.grown_cell hg x0 hne; replace x1 := Sv.grown_cell hg x1 hne; replace x2 := Sv.grown_cell hg x2 hne; have HR6z := HR6w; have HR8z := HR8w; clear HR6w HR8w; have HR6w := Lib.hid (Sv.R_keep2 HR6z.out rfl hg HS67.out.symm); have HR8w := Lib.hid (Sv.R_keep2 HR8z.out rfl hg HS78.out); have HS67z : Hid (Sv.Sep u6 v12) := Lib.hid (Sv.Sep.symm (Sv.Sep.new HS67.out.symm hat (Kd.R_lt HR6z.out))); have HS78z : Hid (Sv.Sep v12 u8) := Lib.hid (Sv.Sep.new HS78.out hat (Kd.R_lt HR8z.out)); clear HR7w HBw HR6z HR8z; have HR7w := Lib.hid ho; have HBw := Lib.hid hb; clear ho hb hg hat hne p1 p2 p3)
              | ((with_reducible refine gate_builtin (b := .append) (xs := #[.tmp 70, .tmp 72]) rfl ?_); at_builtin; refine Kd.R_append Sv.srvKd (w0 := w) w.heap.size rfl (.tmp 70) (.tmp 72) 25 30 _ 40 rfl Tryd.underlying25 infS rfl (by decide) (by decide) u6 (Sv.gots (l.take j)) (⟨#[]⟩, ⟨#[]⟩, 0) [.string ⟨#[]⟩, .string ⟨#[]⟩, .int .i64 0] (fun _ => True) (fun k => False) ?aV ?aX ?aP ?aK (fun _ _ => trivial) ?aO ?aB ?aS ?aL ?_; (case aV => exact rfl); (case aX => first | exact rfl | (simp only [World.size_alloc, World.size_setCell]; exact rfl) | (rw [(Kd.setCells_same _ _ _ _).2.2.2]; simp only [World.size_alloc]; exact rfl)); (case aP => exact Sv.srv_make _ _ _ _ _ _); (case aK => exact fun k hk => absurd hk id); (case aO => exact HR6w.out); (case aB => exact HBw.out); (case aS => exact HBw.out.size); (case aL => (rw [Sv.gots_len, List.length_take]; omega)); intro v10 w10 ho hb hg hat; have HR7a := Lib.hid (Sv.R_keep2 HR7w.out rfl hg HS67z.out); have HR8a := Lib.hid (Sv.R_keep2 HR8w.out rfl hg HS68.out); have HS67a := Lib.hid (Sv.Sep.new HS67z.out hat (Kd.R_lt HR7w.out)); have HS68a := Lib.hid (Sv.Sep.new HS68.out hat (Kd.R_lt HR8w.out)); have HO10 := Lib.hid ho; have HB10 := Lib.hid hb; clear ho hb hg hat)
              | ((with_reducible refine gate_builtin (b := .append) (xs := #[.tmp 74, .tmp 76]) rfl ?_); at_builtin; refine Kd.R_append Kd.bool (w0 := w) w.heap.size rfl (.tmp 74) (.tmp 76) 26 4 _ 1 rfl Tryd.underlying26 infB rfl (by decide) (by decide) u8 (Sv.oks (l.take j)) false [.bool false] (fun _ => True) (fun k => False) ?aV ?aX ?aP ?aK (fun _ _ => trivial) ?aO ?aB ?aS ?aL ?_; (case aV => exact rfl); (case aX => exact rfl); (case aP => exact rfl); (case aK => exact fun k hk => absurd hk id); (case aO => exact HR8a.out); (case aB => exact HB10.out); (case aS => exact HB10.out.size); (case aL => (rw [Sv.oks_len, List.length_take]; omega)); intro v11 w11 ho hb hg hat; have HR6b := Lib.hid (Sv.R_keep2 HO10.out rfl hg HS68a.out.symm); have HR7b := Lib.hid (Sv.R_keep2 HR7a.out rfl hg HS78z.out.symm); have HS68b := Lib.hid (Sv.Sep.symm (Sv.Sep.new HS68a.out.symm hat (Kd.R_lt HO10.out))); have HS78b := Lib.hid (Sv.Sep.symm (Sv.Sep.new HS78z.out.symm hat (Kd.R_lt HR7a.out))); have HO11 := Lib.hid ho; have HB11 := Lib.hid hb; clear ho hb hg hat))
            go_roundw
            case measure => simp [intOf]; omega
            case rel =>
              have hN : Sv.st (l.take (j + 1)) = ((all ++ [(pr, ad, po)]), 0) := by
                rw [HP.out, Sv.st_snoc, HSt.out]
                simp [Sv.nxt, ← HQ.out]
              have hT : Sv.tel (Sv.st (l.take j)) (0, pr, ad, po) = none := by
                rw [HSt.out]
                rfl
              refine ⟨j + 1, 0, (all ++ [(pr, ad, po)]), by go_num, by omega, rfl, Lib.hid hN, Lib.hid ?_, HR7b, Lib.hid ?_, HS67a, HS68b, HS78b, HB11⟩
              · rw [HP.out, Sv.gots_snoc, hT]; exact HR6b.out
              · rw [HP.out, Sv.oks_snoc, hT]; exact HO11.out
          · have t3 : decide ((at_ : Int) > 0) = true := decide_eq_true (by omega)
            by_cases h1 : m ≤ at_
            · have t4 : decide ((at_ : Int) ≥ (m : Int)) = true := decide_eq_true (by omega)
              go_wp2_with (go_at_call 14; (with_reducible refine HCF.out.mono ?_); rintro e w4 ⟨rfl, hb4⟩; have hW4 : Below wr.heap.size wr w4 := (below_alloc (below_alloc (Below.refl wr.heap.size wr) _) _).trans (hb4.mono (by rw [World.size_alloc, World.size_alloc]; omega)); have x0 := bl_cell hb4 hX0; have x1 := bl_cell hb4 hX1; have x2 := bl_cell hb4 hX2; have p1 := bl_cell hb4 hP1; have p2 := bl_cell hb4 hP2; have p3 := bl_cell hb4 hP3; have HR6w : Hid (Sv.srvKd.R 30 (w4) w.heap.size (fun _ => True) u6 (Sv.gots (l.take j))) := Lib.hid (Kd.R_below HR6.out hW4); have HR7w : Hid (Sv.srvKd.R 30 (w4) w.heap.size (fun _ => True) (.slice A7 m c7) all) := Lib.hid (Kd.R_below HR7.out hW4); have HR8w : Hid (Kd.bool.R 4 (w4) w.heap.size (fun _ => True) u8 (Sv.oks (l.take j))) := Lib.hid (Kd.R_below HR8.out hW4); have HBw : Hid (Below w.heap.size w (w4)) := Lib.hid (HB.out.trans ((hW4).mono HB.out.size)); have HSz : Hid (wr.heap.size + 1 < w4.heap.size) := Lib.hid (by have := hb4.size; rw [World.size_alloc, World.size_alloc] at this; omega); clear hb4 hW4)
              refine bodyPost_ret (v := .tuple #[.slice none 0 0, .slice none 0 0, .slice none 0 0, .bool false]) (by simp [results, Tryd.results8, go_sem]) rfl ?_
              exact ⟨.inl rfl, HBw.out⟩
            · have t4 : decide ((at_ : Int) ≥ (m : Int)) = false := decide_eq_false (by omega)
              go_wp2_with (first
                | (go_at_call 14; (with_reducible refine HCF.out.mono ?_); rintro e w4 ⟨rfl, hb4⟩; have hW4 : Below wr.heap.size wr w4 := (below_alloc (below_alloc (Below.refl wr.heap.size wr) _) _).trans (hb4.mono (by rw [World.size_alloc, World.size_alloc]; omega)); have x0 := bl_cell hb4 hX0; have x1 := bl_cell hb4 hX1; have x2 := bl_cell hb4 hX2; have p1 := bl_cell hb4 hP1; have p2 := bl_cell hb4 hP2; have p3 := bl_cell hb4 hP3; have HR6w : Hid (Sv.srvKd.R 30 (w4) w.heap.size (fun _ => True) u6 (Sv.gots (l.take j))) := Lib.hid (Kd.R_below HR6.out hW4); have HR7w : Hid (Sv.srvKd.R 30 (w4) w.heap.size (fun _ => True) (.slice A7 m c7) all) := Lib.hid (Kd.R_below HR7.out hW4); have HR8w : Hid (Kd.bool.R 4 (w4) w.heap.size (fun _ => True) u8 (Sv.oks (l.take j))) := Lib.hid (Kd.R_below HR8.out hW4); have HBw : Hid (Below w.heap.size w (w4)) := Lib.hid (HB.out.trans ((hW4).mono HB.out.size)); have HSz : Hid (wr.heap.size + 1 < w4.heap.size) := Lib.hid (by have := hb4.size; rw [World.size_alloc, World.size_alloc] at this; omega); clear hb4 hW4)
                | ((with_reducible refine gate_builtin (b := .append) (xs := #[.tmp 42, .tmp 45]) rfl ?_); at_builtin; refine Kd.R_append Sv.srvKd (w0 := w) w.heap.size rfl (.tmp 42) (.tmp 45) 25 30 _ 40 rfl Tryd.underlying25 infS rfl (by decide) (by decide) (.slice A7 m c7) all (pr, ad, po) [.string pr, .string ad, .int .i64 po] (fun _ => True) (fun k => False) ?aV ?aX ?aP ?aK (fun _ _ => trivial) ?aO ?aB ?aS ?aL ?_; (case aV => exact rfl); (case aX => first | exact rfl | (simp only [World.size_alloc, World.size_setCell]; exact rfl) | (rw [(Kd.setCells_same _ _ _ _).2.2.2]; simp only [World.size_alloc]; exact rfl)); (case aP => exact Sv.srv_make _ _ _ _ _ _); (case aK => exact fun k hk => absurd hk id); (case aO => exact HR7w.out); (case aB => exact HBw.out); (case aS => exact HBw.out.size); (case aL => (have := HMl.out; omega)); intro v12 w12 ho hb hg hat; have hne : (Value.slice A7 m c7).ownBlock ≠ some (wr.heap.size + 1) := fun e => (by have := Kd.R_lt HR7.out _ e; omega); replace x0 := Sv.grown_cell hg x0 hne; replace x1 := Sv.grown_cell hg x1 hne; replace x2 := Sv.grown_cell hg x2 hne; have HR6z := HR6w; have HR8z := HR8w; clear HR6w HR8w; have HR6w := Lib.hid (Sv.R_keep2 HR6z.out rfl hg HS67.out.symm); have HR8w := Lib.hid (Sv.R_keep2 HR8z.out rfl hg HS78.out); have HS67z : Hid (Sv.Sep u6 v12) := Lib.hid (Sv.Sep.symm (Sv.Sep.new HS67.out.symm hat (Kd.R_lt HR6z.out))); have HS78z : Hid (Sv.Sep v12 u8) := Lib.hid (Sv.Sep.new HS78.out hat (Kd.R_lt HR8z.out)); clear HR7w HBw HR6z HR8z; have HR7w := Lib.hid ho; have HBw := Lib.hid hb; clear ho hb hg hat hne p1 p2 p3)
                | ((with_reducible refine gate_builtin (b := .append) (xs := #[.tmp 70, .tmp 72]) rfl ?_); at_builtin; refine Kd.R_append Sv.srvKd (w0 := w) w.heap.size rfl (.tmp 70) (.tmp 72) 25 30 _ 40 rfl Tryd.underlying25 infS rfl (by decide) (by decide) u6 (Sv.gots (l.take j)) (⟨#[]⟩, ⟨#[]⟩, 0) [.string ⟨#[]⟩, .string ⟨#[]⟩, .int .i64 0] (fun _ => True) (fun k => False) ?aV ?aX ?aP ?aK (fun _ _ => trivial) ?aO ?aB ?aS ?aL ?_; (case aV => exact rfl); (case aX => first | exact rfl | (simp only [World.size_alloc, World.size_setCell]; exact rfl) | (rw [(Kd.setCells_same _ _ _ _).2.2.2]; simp only [World.size_alloc]; exact rfl)); (case aP => exact Sv.srv_make _ _ _ _ _ _); (case aK => exact fun k hk => absurd hk id); (case aO => exact HR6w.out); (case aB => exact HBw.out); (case aS => exact HBw.out.size); (case aL => (rw [Sv.gots_len, List.length_take]; omega)); intro v10 w10 ho hb hg hat; have HR7a := Lib.hid (Sv.R_keep2 HR7w.out rfl hg HS67z.out); have HR8a := Lib.hid (Sv.R_keep2 HR8w.out rfl hg HS68.out); have HS67a := Lib.hid (Sv.Sep.new HS67z.out hat (Kd.R_lt HR7w.out)); have HS68a := Lib.hid (Sv.Sep.new HS68.out hat (Kd.R_lt HR8w.out)); have HO10 := Lib.hid ho; have HB10 := Lib.hid hb; clear ho hb hg hat)
                | ((with_reducible refine gate_builtin (b := .append) (xs := #[.tmp 74, .tmp 76]) rfl ?_); at_builtin; refine Kd.R_append Kd.bool (w0 := w) w.heap.size rfl (.tmp 74) (.tmp 76) 26 4 _ 1 rfl Tryd.underlying26 infB rfl (by decide) (by decide) u8 (Sv.oks (l.take j)) false [.bool false] (fun _ => True) (fun k => False) ?aV ?aX ?aP ?aK (fun _ _ => trivial) ?aO ?aB ?aS ?aL ?_; (case aV => exact rfl); (case aX => exact rfl); (case aP => exact rfl); (case aK => exact fun k hk => absurd hk id); (case aO => exact HR8a.out); (case aB => exact HB10.out); (case aS => exact HB10.out.size); (case aL => (rw [Sv.oks_len, List.length_take]; omega)); intro v11 w11 ho hb hg hat; have HR6b := Lib.hid (Sv.R_keep2 HO10.out rfl hg HS68a.out.symm); have HR7b := Lib.hid (Sv.R_keep2 HR7a.out rfl hg HS78z.out.symm); have HS68b := Lib.hid (Sv.Sep.symm (Sv.Sep.new HS68a.out.symm hat (Kd.R_lt HO10.out))); have HS78b := Lib.hid (Sv.Sep.symm (Sv.Sep.new HS78z.out.symm hat (Kd.R_lt HR7a.out))); have HO11 := Lib.hid ho; have HB11 := Lib.hid hb; clear ho hb hg hat))
              go_roundw
              case measure => simp [intOf]; omega
              case rel =>
                have hN : Sv.st (l.take (j + 1)) = ((all ++ [(pr, ad, po)]), at_) := by
                  rw [HP.out, Sv.st_snoc, HSt.out]
                  simp [Sv.nxt, ← HQ.out]
                have hT : Sv.tel (Sv.st (l.take j)) (0, pr, ad, po) = none := by
                  rw [HSt.out]
                  rfl
                refine ⟨j + 1, at_, (all ++ [(pr, ad, po)]), by go_num, by omega, rfl, Lib.hid hN, Lib.hid ?_, HR7b, Lib.hid ?_, HS67a, HS68b, HS78b, HB11⟩
                · rw [HP.out, Sv.gots_snoc, hT]; exact HR6b.out
                · rw [HP.out, Sv.oks_snoc, hT]; exact HO11.out
        · go_wp2_with (first
            | (go_at_call 14; (with_reducible refine HCF.out.mono ?_); rintro e w4 ⟨rfl, hb4⟩; have hW4 : Below wr.heap.size wr w4 := (below_alloc (below_alloc (Below.refl wr.heap.size wr) _) _).trans (hb4.mono (by rw [World.size_alloc, World.size_alloc]; omega)); have x0 := bl_cell hb4 hX0; have x1 := bl_cell hb4 hX1; have x2 := bl_cell hb4 hX2; have p1 := bl_cell hb4 hP1; have p2 := bl_cell hb4 hP2; have p3 := bl_cell hb4 hP3; have HR6w : Hid (Sv.srvKd.R 30 (w4) w.heap.size (fun _ => True) u6 (Sv.gots (l.take j))) := Lib.hid (Kd.R_below HR6.out hW4); have HR7w : Hid (Sv.srvKd.R 30 (w4) w.heap.size (fun _ => True) (.slice A7 m c7) all) := Lib.hid (Kd.R_below HR7.out hW4); have HR8w : Hid (Kd.bool.R 4 (w4) w.heap.size (fun _ => True) u8 (Sv.oks (l.take j))) := Lib.hid (Kd.R_below HR8.out hW4); have HBw : Hid (Below w.heap.size w (w4)) := Lib.hid (HB.out.trans ((hW4).mono HB.out.size)); have HSz : Hid (wr.heap.size + 1 < w4.heap.size) := Lib.hid (by have := hb4.size; rw [World.size_alloc, World.size_alloc] at this; omega); clear hb4 hW4)
            | ((with_reducible refine gate_builtin (b := .append) (xs := #[.tmp 70, .tmp 72]) rfl ?_); at_builtin; refine Kd.R_append Sv.srvKd (w0 := w) w.heap.size rfl (.tmp 70) (.tmp 72) 25 30 _ 40 rfl Tryd.underlying25 infS rfl (by decide) (by decide) u6 (Sv.gots (l.take j)) (⟨#[]⟩, ⟨#[]⟩, 0) [.string ⟨#[]⟩, .string ⟨#[]⟩, .int .i64 0] (fun _ => True) (fun k => False) ?aV ?aX ?aP ?aK (fun _ _ => trivial) ?aO ?aB ?aS ?aL ?_; (case aV => exact rfl); (case aX => first | exact rfl | (simp only [World.size_alloc, World.size_setCell]; exact rfl) | (rw [(Kd.setCells_same _ _ _ _).2.2.2]; simp only [World.size_alloc]; exact rfl)); (case aP => exact Sv.srv_make _ _ _ _ _ _); (case aK => exact fun k hk => absurd hk id); (case aO => exact HR6w.out); (case aB => exact HBw.out); (case aS => exact HBw.out.size); (case aL => (rw [Sv.gots_len, List.length_take]; omega)); intro v10 w10 ho hb hg hat; have HR7a := Lib.hid (Sv.R_keep2 HR7w.out rfl hg HS67.out); have HR8a := Lib.hid (Sv.R_keep2 HR8w.out rfl hg HS68.out); have HS67a := Lib.hid (Sv.Sep.new HS67.out hat (Kd.R_lt HR7w.out)); have HS68a := Lib.hid (Sv.Sep.new HS68.out hat (Kd.R_lt HR8w.out)); have HO10 := Lib.hid ho; have HB10 := Lib.hid hb; clear ho hb hg hat)
            | ((with_reducible refine gate_builtin (b := .append) (xs := #[.tmp 74, .tmp 76]) rfl ?_); at_builtin; refine Kd.R_append Kd.bool (w0 := w) w.heap.size rfl (.tmp 74) (.tmp 76) 26 4 _ 1 rfl Tryd.underlying26 infB rfl (by decide) (by decide) u8 (Sv.oks (l.take j)) false [.bool false] (fun _ => True) (fun k => False) ?aV ?aX ?aP ?aK (fun _ _ => trivial) ?aO ?aB ?aS ?aL ?_; (case aV => exact rfl); (case aX => exact rfl); (case aP => exact rfl); (case aK => exact fun k hk => absurd hk id); (case aO => exact HR8a.out); (case aB => exact HB10.out); (case aS => exact HB10.out.size); (case aL => (rw [Sv.oks_len, List.length_take]; omega)); intro v11 w11 ho hb hg hat; have HR6b := Lib.hid (Sv.R_keep2 HO10.out rfl hg HS68a.out.symm); have HR7b := Lib.hid (Sv.R_keep2 HR7a.out rfl hg HS78.out.symm); have HS68b := Lib.hid (Sv.Sep.symm (Sv.Sep.new HS68a.out.symm hat (Kd.R_lt HO10.out))); have HS78b := Lib.hid (Sv.Sep.symm (Sv.Sep.new HS78.out.symm hat (Kd.R_lt HR7a.out))); have HO11 := Lib.hid ho; have HB11 := Lib.hid hb; clear ho hb hg hat))
          go_roundw
          case measure => simp [intOf]; omega
          case rel =>
            have hN : Sv.st (l.take (j + 1)) = (all, at_) := by
              rw [HP.out, Sv.st_snoc, HSt.out]
              simp [Sv.nxt, ← HQ.out]
            have hT : Sv.tel (Sv.st (l.take j)) (0, pr, ad, po) = none := by
              rw [HSt.out]
              rfl
            refine ⟨j + 1, at_, all, by go_num, by omega, rfl, Lib.hid hN, Lib.hid ?_, HR7b, Lib.hid ?_, HS67a, HS68b, HS78b, HB11⟩
            · rw [HP.out, Sv.gots_snoc, hT]; exact HR6b.out
            · rw [HP.out, Sv.oks_snoc, hT]; exact HO11.out
      by_cases k1 : kd = 1
      · subst k1
        by_cases hin : at_ < m
        · have t3 : decide ((at_ : Int) < (m : Int)) = true := decide_eq_true (by omega)
          obtain ⟨g7, o7, rfl, y0, y1, y2⟩ := Sv.srv_at HC7.out at_ (by rw [← HMl.out]; exact hin)
          have HY : Hid (all[at_]? = some (all[at_]'(by rw [← HMl.out]; exact hin))) := Lib.hid (List.getElem?_eq_getElem _)
          generalize all[at_]'(by rw [← HMl.out]; exact hin) = y at y0 y1 y2 HY
          obtain ⟨yp, ya, yn⟩ := y
          simp only at y0 y1 y2
          have z0 := cell_alloc (.cells #[.string ⟨#[]⟩, .string ⟨#[]⟩, .int .i64 0] 30) (cell_alloc (.cells #[.int .i64 1, .string pr, .string ad, .int .i64 po] 32) y0)
          have z1 := cell_alloc (.cells #[.string ⟨#[]⟩, .string ⟨#[]⟩, .int .i64 0] 30) (cell_alloc (.cells #[.int .i64 1, .string pr, .string ad, .int .i64 po] 32) y1)
          have z2 := cell_alloc (.cells #[.string ⟨#[]⟩, .string ⟨#[]⟩, .int .i64 0] 30) (cell_alloc (.cells #[.int .i64 1, .string pr, .string ad, .int .i64 po] 32) y2)
          have HR6w : Hid (Sv.srvKd.R 30 ((wr.alloc (.cells #[.int .i64 1, .string pr, .string ad, .int .i64 po] 32)).alloc (.cells #[.string yp, .string ya, .int .i64 yn] 30)) w.heap.size (fun _ => True) u6 (Sv.gots (l.take j))) := Lib.hid (Kd.R_below HR6.out (below_alloc (below_alloc (Below.refl wr.heap.size wr) _) _))
          have HR7w : Hid (Sv.srvKd.R 30 ((wr.alloc (.cells #[.int .i64 1, .string pr, .string ad, .int .i64 po] 32)).alloc (.cells #[.string yp, .string ya, .int .i64 yn] 30)) w.heap.size (fun _ => True) (.slice (some ⟨g7, o7, none⟩) m c7) all) := Lib.hid (Kd.R_below HR7.out (below_alloc (below_alloc (Below.refl wr.heap.size wr) _) _))
          have HR8w : Hid (Kd.bool.R 4 ((wr.alloc (.cells #[.int .i64 1, .string pr, .string ad, .int .i64 po] 32)).alloc (.cells #[.string yp, .string ya, .int .i64 yn] 30)) w.heap.size (fun _ => True) u8 (Sv.oks (l.take j))) := Lib.hid (Kd.R_below HR8.out (below_alloc (below_alloc (Below.refl wr.heap.size wr) _) _))
          have HBw : Hid (Below w.heap.size w ((wr.alloc (.cells #[.int .i64 1, .string pr, .string ad, .int .i64 po] 32)).alloc (.cells #[.string yp, .string ya, .int .i64 yn] 30))) := Lib.hid (HB.out.trans (((below_alloc (below_alloc (Below.refl wr.heap.size wr) _) _)).mono HB.out.size))
          go_wp2_with (first
            | ((with_reducible refine gate_builtin (b := .append) (xs := #[.tmp 70, .tmp 72]) rfl ?_); at_builtin; refine Kd.R_append Sv.srvKd (w0 := w) w.heap.size rfl (.tmp 70) (.tmp 72) 25 30 _ 40 rfl Tryd.underlying25 infS rfl (by decide) (by decide) u6 (Sv.gots (l.take j)) (yp, ya, yn) [.string yp, .string ya, .int .i64 yn] (fun _ => True) (fun k => False) ?aV ?aX ?aP ?aK (fun _ _ => trivial) ?aO ?aB ?aS ?aL ?_; (case aV => exact rfl); (case aX => first | exact rfl | (simp only [World.size_alloc, World.size_setCell]; exact rfl) | (rw [(Kd.setCells_same _ _ _ _).2.2.2]; simp only [World.size_alloc]; exact rfl)); (case aP => exact Sv.srv_make _ _ _ _ _ _); (case aK => exact fun k hk => absurd hk id); (case aO => exact HR6w.out); (case aB => exact HBw.out); (case aS => exact HBw.out.size); (case aL => (rw [Sv.gots_len, List.length_take]; omega)); intro v10 w10 ho hb hg hat; have HR7a := Lib.hid (Sv.R_keep2 HR7w.out rfl hg HS67.out); have HR8a := Lib.hid (Sv.R_keep2 HR8w.out rfl hg HS68.out); have HS67a := Lib.hid (Sv.Sep.new HS67.out hat (Kd.R_lt HR7w.out)); have HS68a := Lib.hid (Sv.Sep.new HS68.out hat (Kd.R_lt HR8w.out)); have HO10 := Lib.hid ho; have HB10 := Lib.hid hb; clear ho hb hg hat)
            | ((with_reducible refine gate_builtin (b := .append) (xs := #[.tmp 74, .tmp 76]) rfl ?_); at_builtin; refine Kd.R_append Kd.bool (w0 := w) w.heap.size rfl (.tmp 74) (.tmp 76) 26 4 _ 1 rfl Tryd.underlying26 infB rfl (by decide) (by decide) u8 (Sv.oks (l.take j)) true [.bool true] (fun _ => True) (fun k => False) ?aV ?aX ?aP ?aK (fun _ _ => trivial) ?aO ?aB ?aS ?aL ?_; (case aV => exact rfl); (case aX => exact rfl); (case aP => exact rfl); (case aK => exact fun k hk => absurd hk id); (case aO => exact HR8a.out); (case aB => exact HB10.out); (case aS => exact HB10.out.size); (case aL => (rw [Sv.oks_len, List.length_take]; omega)); intro v11 w11 ho hb hg hat; have HR6b := Lib.hid (Sv.R_keep2 HO10.out rfl hg HS68a.out.symm); have HR7b := Lib.hid (Sv.R_keep2 HR7a.out rfl hg HS78.out.symm); have HS68b := Lib.hid (Sv.Sep.symm (Sv.Sep.new HS68a.out.symm hat (Kd.R_lt HO10.out))); have HS78b := Lib.hid (Sv.Sep.symm (Sv.Sep.new HS78.out.symm hat (Kd.R_lt HR7a.out))); have HO11 := Lib.hid ho; have HB11 := Lib.hid hb; clear ho hb hg hat))
          go_roundw
          case measure => simp [intOf]; omega
          case rel =>
            have hN : Sv.st (l.take (j + 1)) = (all, at_) := by
              rw [HP.out, Sv.st_snoc, HSt.out]
              rfl
            have hT : Sv.tel (Sv.st (l.take j)) (1, pr, ad, po) = some (yp, ya, yn) := by
              rw [HSt.out]
              exact HY.out
            refine ⟨j + 1, at_, all, by go_num, by omega, rfl, Lib.hid hN, Lib.hid ?_, HR7b, Lib.hid ?_, HS67a, HS68b, HS78b, HB11⟩
            · rw [HP.out, Sv.gots_snoc, hT]; exact HR6b.out
            · rw [HP.out, Sv.oks_snoc, hT]; exact HO11.out
        · have t3 : decide ((at_ : Int) < (m : Int)) = false := decide_eq_false (by omega)
          have HR6w : Hid (Sv.srvKd.R 30 ((wr.alloc (.cells #[.int .i64 1, .string pr, .string ad, .int .i64 po] 32)).alloc (.cells #[.string ⟨#[]⟩, .string ⟨#[]⟩, .int .i64 0] 30)) w.heap.size (fun _ => True) u6 (Sv.gots (l.take j))) := Lib.hid (Kd.R_below HR6.out (below_alloc (below_alloc (Below.refl wr.heap.size wr) _) _))
          have HR7w : Hid (Sv.srvKd.R 30 ((wr.alloc (.cells #[.int .i64 1, .string pr, .string ad, .int .i64 po] 32)).alloc (.cells #[.string ⟨#[]⟩, .string ⟨#[]⟩, .int .i64 0] 30)) w.heap.size (fun _ => True) (.slice A7 m c7) all) := Lib.hid (Kd.R_below HR7.out (below_alloc (below_alloc (Below.refl wr.heap.size wr) _) _))
          have HR8w : Hid (Kd.bool.R 4 ((wr.alloc (.cells #[.int .i64 1, .string pr, .string ad, .int .i64 po] 32)).alloc (.cells #[.string ⟨#[]⟩, .string ⟨#[]⟩, .int .i64 0] 30)) w.heap.size (fun _ => True) u8 (Sv.oks (l.take j))) := Lib.hid (Kd.R_below HR8.out (below_alloc (below_alloc (Below.refl wr.heap.size wr) _) _))
          have HBw : Hid (Below w.heap.size w ((wr.alloc (.cells #[.int .i64 1, .string pr, .string ad, .int .i64 po] 32)).alloc (.cells #[.string ⟨#[]⟩, .string ⟨#[]⟩, .int .i64 0] 30))) := Lib.hid (HB.out.trans (((below_alloc (below_alloc (Below.refl wr.heap.size wr) _) _)).mono HB.out.size))
          go_wp2_with (first
            | ((with_reducible refine gate_builtin (b := .append) (xs := #[.tmp 70, .tmp 72]) rfl ?_); at_builtin; refine Kd.R_append Sv.srvKd (w0 := w) w.heap.size rfl (.tmp 70) (.tmp 72) 25 30 _ 40 rfl Tryd.underlying25 infS rfl (by decide) (by decide) u6 (Sv.gots (l.take j)) (⟨#[]⟩, ⟨#[]⟩, 0) [.string ⟨#[]⟩, .string ⟨#[]⟩, .int .i64 0] (fun _ => True) (fun k => False) ?aV ?aX ?aP ?aK (fun _ _ => trivial) ?aO ?aB ?aS ?aL ?_; (case aV => exact rfl); (case aX => first | exact rfl | (simp only [World.size_alloc, World.size_setCell]; exact rfl) | (rw [(Kd.setCells_same _ _ _ _).2.2.2]; simp only [World.size_alloc]; exact rfl)); (case aP => exact Sv.srv_make _ _ _ _ _ _); (case aK => exact fun k hk => absurd hk id); (case aO => exact HR6w.out); (case aB => exact HBw.out); (case aS => exact HBw.out.size); (case aL => (rw [Sv.gots_len, List.length_take]; omega)); intro v10 w10 ho hb hg hat; have HR7a := Lib.hid (Sv.R_keep2 HR7w.out rfl hg HS67.out); have HR8a := Lib.hid (Sv.R_keep2 HR8w.out rfl hg HS68.out); have HS67a := Lib.hid (Sv.Sep.new HS67.out hat (Kd.R_lt HR7w.out)); have HS68a := Lib.hid (Sv.Sep.new HS68.out hat (Kd.R_lt HR8w.out)); have HO10 := Lib.hid ho; have HB10 := Lib.hid hb; clear ho hb hg hat)
            | ((with_reducible refine gate_builtin (b := .append) (xs := #[.tmp 74, .tmp 76]) rfl ?_); at_builtin; refine Kd.R_append Kd.bool (w0 := w) w.heap.size rfl (.tmp 74) (.tmp 76) 26 4 _ 1 rfl Tryd.underlying26 infB rfl (by decide) (by decide) u8 (Sv.oks (l.take j)) false [.bool false] (fun _ => True) (fun k => False) ?aV ?aX ?aP ?aK (fun _ _ => trivial) ?aO ?aB ?aS ?aL ?_; (case aV => exact rfl); (case aX => exact rfl); (case aP => exact rfl); (case aK => exact fun k hk => absurd hk id); (case aO => exact HR8a.out); (case aB => exact HB10.out); (case aS => exact HB10.out.size); (case aL => (rw [Sv.oks_len, List.length_take]; omega)); intro v11 w11 ho hb hg hat; have HR6b := Lib.hid (Sv.R_keep2 HO10.out rfl hg HS68a.out.symm); have HR7b := Lib.hid (Sv.R_keep2 HR7a.out rfl hg HS78.out.symm); have HS68b := Lib.hid (Sv.Sep.symm (Sv.Sep.new HS68a.out.symm hat (Kd.R_lt HO10.out))); have HS78b := Lib.hid (Sv.Sep.symm (Sv.Sep.new HS78.out.symm hat (Kd.R_lt HR7a.out))); have HO11 := Lib.hid ho; have HB11 := Lib.hid hb; clear ho hb hg hat))
          go_roundw
          case measure => simp [intOf]; omega
          case rel =>
            have hN : Sv.st (l.take (j + 1)) = (all, at_) := by
              rw [HP.out, Sv.st_snoc, HSt.out]
              rfl
            have hT : Sv.tel (Sv.st (l.take j)) (1, pr, ad, po) = none := by
              rw [HSt.out]
              show all[at_]? = none
              exact List.getElem?_eq_none (by have := HMl.out; omega)
            refine ⟨j + 1, at_, all, by go_num, by omega, rfl, Lib.hid hN, Lib.hid ?_, HR7b, Lib.hid ?_, HS67a, HS68b, HS78b, HB11⟩
            · rw [HP.out, Sv.gots_snoc, hT]; exact HR6b.out
            · rw [HP.out, Sv.oks_snoc, hT]; exact HO11.out
      by_cases k2 : kd = 2
      · subst k2
        by_cases hbad : m ≤ at_
        · have t3 : decide ((at_ : Int) ≥ (m : Int)) = true := decide_eq_true (by omega)
          go_wp2
          refine bodyPost_ret (v := .tuple #[.slice none 0 0, .slice none 0 0, .slice none 0 0, .bool false]) (by simp [results, Tryd.results8, go_sem]) rfl ?_
          exact ⟨.inl rfl, HB.out.trans ((below_alloc (below_alloc (Below.refl wr.heap.size wr) _) _).mono HB.out.size)⟩
        have t3 : decide ((at_ : Int) ≥ (m : Int)) = false := decide_eq_false (by omega)
        have b0 : (0 : Int) ≤ (at_ : Int) + 1 := by omega
        by_cases hin : at_ + 1 < m
        · have t4 : decide ((at_ : Int) + 1 < (m : Int)) = true := decide_eq_true (by omega)
          obtain ⟨g7, o7, rfl, y0, y1, y2⟩ := Sv.srv_at HC7.out (at_ + 1) (by rw [← HMl.out]; exact hin)
          have HY : Hid (all[(at_ + 1)]? = some (all[(at_ + 1)]'(by rw [← HMl.out]; exact hin))) := Lib.hid (List.getElem?_eq_getElem _)
          generalize all[(at_ + 1)]'(by rw [← HMl.out]; exact hin) = y at y0 y1 y2 HY
          obtain ⟨yp, ya, yn⟩ := y
          simp only at y0 y1 y2
          have z0 := cell_alloc (.cells #[.string ⟨#[]⟩, .string ⟨#[]⟩, .int .i64 0] 30) (cell_alloc (.cells #[.int .i64 2, .string pr, .string ad, .int .i64 po] 32) y0)
          have z1 := cell_alloc (.cells #[.string ⟨#[]⟩, .string ⟨#[]⟩, .int .i64 0] 30) (cell_alloc (.cells #[.int .i64 2, .string pr, .string ad, .int .i64 po] 32) y1)
          have z2 := cell_alloc (.cells #[.string ⟨#[]⟩, .string ⟨#[]⟩, .int .i64 0] 30) (cell_alloc (.cells #[.int .i64 2, .string pr, .string ad, .int .i64 po] 32) y2)
          have HR6w : Hid (Sv.srvKd.R 30 ((wr.alloc (.cells #[.int .i64 2, .string pr, .string ad, .int .i64 po] 32)).alloc (.cells #[.string yp, .string ya, .int .i64 yn] 30)) w.heap.size (fun _ => True) u6 (Sv.gots (l.take j))) := Lib.hid (Kd.R_below HR6.out (below_alloc (below_alloc (Below.refl wr.heap.size wr) _) _))
          have HR7w : Hid (Sv.srvKd.R 30 ((wr.alloc (.cells #[.int .i64 2, .string pr, .string ad, .int .i64 po] 32)).alloc (.cells #[.string yp, .string ya, .int .i64 yn] 30)) w.heap.size (fun _ => True) (.slice (some ⟨g7, o7, none⟩) m c7) all) := Lib.hid (Kd.R_below HR7.out (below_alloc (below_alloc (Below.refl wr.heap.size wr) _) _))
          have HR8w : Hid (Kd.bool.R 4 ((wr.alloc (.cells #[.int .i64 2, .string pr, .string ad, .int .i64 po] 32)).alloc (.cells #[.string yp, .string ya, .int .i64 yn] 30)) w.heap.size (fun _ => True) u8 (Sv.oks (l.take j))) := Lib.hid (Kd.R_below HR8.out (below_alloc (below_alloc (Below.refl wr.heap.size wr) _) _))
          have HBw : Hid (Below w.heap.size w ((wr.alloc (.cells #[.int .i64 2, .string pr, .string ad, .int .i64 po] 32)).alloc (.cells #[.string yp, .string ya, .int .i64 yn] 30))) := Lib.hid (HB.out.trans (((below_alloc (below_alloc (Below.refl wr.heap.size wr) _) _)).mono HB.out.size))
          go_wp2_with (first
            | ((with_reducible refine gate_builtin (b := .append) (xs := #[.tmp 70, .tmp 72]) rfl ?_); at_builtin; refine Kd.R_append Sv.srvKd (w0 := w) w.heap.size rfl (.tmp 70) (.tmp 72) 25 30 _ 40 rfl Tryd.underlying25 infS rfl (by decide) (by decide) u6 (Sv.gots (l.take j)) (yp, ya, yn) [.string yp, .string ya, .int .i64 yn] (fun _ => True) (fun k => False) ?aV ?aX ?aP ?aK (fun _ _ => trivial) ?aO ?aB ?aS ?aL ?_; (case aV => exact rfl); (case aX => first | exact rfl | (simp only [World.size_alloc, World.size_setCell]; exact rfl) | (rw [(Kd.setCells_same _ _ _ _).2.2.2]; simp only [World.size_alloc]; exact rfl)); (case aP => exact Sv.srv_make _ _ _ _ _ _); (case aK => exact fun k hk => absurd hk id); (case aO => exact HR6w.out); (case aB => exact HBw.out); (case aS => exact HBw.out.size); (case aL => (rw [Sv.gots_len, List.length_take]; omega)); intro v10 w10 ho hb hg hat; have HR7a := Lib.hid (Sv.R_keep2 HR7w.out rfl hg HS67.out); have HR8a := Lib.hid (Sv.R_keep2 HR8w.out rfl hg HS68.out); have HS67a := Lib.hid (Sv.Sep.new HS67.out hat (Kd.R_lt HR7w.out)); have HS68a := Lib.hid (Sv.Sep.new HS68.out hat (Kd.R_lt HR8w.out)); have HO10 := Lib.hid ho; have HB10 := Lib.hid hb; clear ho hb hg hat)
            | ((with_reducible refine gate_builtin (b := .append) (xs := #[.tmp 74, .tmp 76]) rfl ?_); at_builtin; refine Kd.R_append Kd.bool (w0 := w) w.heap.size rfl (.tmp 74) (.tmp 76) 26 4 _ 1 rfl Tryd.underlying26 infB rfl (by decide) (by decide) u8 (Sv.oks (l.take j)) true [.bool true] (fun _ => True) (fun k => False) ?aV ?aX ?aP ?aK (fun _ _ => trivial) ?aO ?aB ?aS ?aL ?_; (case aV => exact rfl); (case aX => exact rfl); (case aP => exact rfl); (case aK => exact fun k hk => absurd hk id); (case aO => exact HR8a.out); (case aB => exact HB10.out); (case aS => exact HB10.out.size); (case aL => (rw [Sv.oks_len, List.length_take]; omega)); intro v11 w11 ho hb hg hat; have HR6b := Lib.hid (Sv.R_keep2 HO10.out rfl hg HS68a.out.symm); have HR7b := Lib.hid (Sv.R_keep2 HR7a.out rfl hg HS78.out.symm); have HS68b := Lib.hid (Sv.Sep.symm (Sv.Sep.new HS68a.out.symm hat (Kd.R_lt HO10.out))); have HS78b := Lib.hid (Sv.Sep.symm (Sv.Sep.new HS78.out.symm hat (Kd.R_lt HR7a.out))); have HO11 := Lib.hid ho; have HB11 := Lib.hid hb; clear ho hb hg hat))
          go_roundw
          case measure => simp [intOf]; omega
          case rel =>
            have hN : Sv.st (l.take (j + 1)) = (all, (at_ + 1)) := by
              rw [HP.out, Sv.st_snoc, HSt.out]
              rfl
            have hT : Sv.tel (Sv.st (l.take j)) (2, pr, ad, po) = some (yp, ya, yn) := by
              rw [HSt.out]
              exact HY.out
            refine ⟨j + 1, (at_ + 1), all, by go_num, by omega, by go_num, Lib.hid hN, Lib.hid ?_, HR7b, Lib.hid ?_, HS67a, HS68b, HS78b, HB11⟩
            · rw [HP.out, Sv.gots_snoc, hT]; exact HR6b.out
            · rw [HP.out, Sv.oks_snoc, hT]; exact HO11.out
        · have t4 : decide ((at_ : Int) + 1 < (m : Int)) = false := decide_eq_false (by omega)
          have HR6w : Hid (Sv.srvKd.R 30 ((wr.alloc (.cells #[.int .i64 2, .string pr, .string ad, .int .i64 po] 32)).alloc (.cells #[.string ⟨#[]⟩, .string ⟨#[]⟩, .int .i64 0] 30)) w.heap.size (fun _ => True) u6 (Sv.gots (l.take j))) := Lib.hid (Kd.R_below HR6.out (below_alloc (below_alloc (Below.refl wr.heap.size wr) _) _))
          have HR7w : Hid (Sv.srvKd.R 30 ((wr.alloc (.cells #[.int .i64 2, .string pr, .string ad, .int .i64 po] 32)).alloc (.cells #[.string ⟨#[]⟩, .string ⟨#[]⟩, .int .i64 0] 30)) w.heap.size (fun _ => True) (.slice A7 m c7) all) := Lib.hid (Kd.R_below HR7.out (below_alloc (below_alloc (Below.refl wr.heap.size wr) _) _))
          have HR8w : Hid (Kd.bool.R 4 ((wr.alloc (.cells #[.int .i64 2, .string pr, .string ad, .int .i64 po] 32)).alloc (.cells #[.string ⟨#[]⟩, .string ⟨#[]⟩, .int .i64 0] 30)) w.heap.size (fun _ => True) u8 (Sv.oks (l.take j))) := Lib.hid (Kd.R_below HR8.out (below_alloc (below_alloc (Below.refl wr.heap.size wr) _) _))
          have HBw : Hid (Below w.heap.size w ((wr.alloc (.cells #[.int .i64 2, .string pr, .string ad, .int .i64 po] 32)).alloc (.cells #[.string ⟨#[]⟩, .string ⟨#[]⟩, .int .i64 0] 30))) := Lib.hid (HB.out.trans (((below_alloc (below_alloc (Below.refl wr.heap.size wr) _) _)).mono HB.out.size))
          go_wp2_with (first
            | ((with_reducible refine gate_builtin (b := .append) (xs := #[.tmp 70, .tmp 72]) rfl ?_); at_builtin; refine Kd.R_append Sv.srvKd (w0 := w) w.heap.size rfl (.tmp 70) (.tmp 72) 25 30 _ 40 rfl Tryd.underlying25 infS rfl (by decide) (by decide) u6 (Sv.gots (l.take j)) (⟨#[]⟩, ⟨#[]⟩, 0) [.string ⟨#[]⟩, .string ⟨#[]⟩, .int .i64 0] (fun _ => True) (fun k => False) ?aV ?aX ?aP ?aK (fun _ _ => trivial) ?aO ?aB ?aS ?aL ?_; (case aV => exact rfl); (case aX => first | exact rfl | (simp only [World.size_alloc, World.size_setCell]; exact rfl) | (rw [(Kd.setCells_same _ _ _ _).2.2.2]; simp only [World.size_alloc]; exact rfl)); (case aP => exact Sv.srv_make _ _ _ _ _ _); (case aK => exact fun k hk => absurd hk id); (case aO => exact HR6w.out); (case aB => exact HBw.out); (case aS => exact HBw.out.size); (case aL => (rw [Sv.gots_len, List.length_take]; omega)); intro v10 w10 ho hb hg hat; have HR7a := Lib.hid (Sv.R_keep2 HR7w.out rfl hg HS67.out); have HR8a := Lib.hid (Sv.R_keep2 HR8w.out rfl hg HS68.out); have HS67a := Lib.hid (Sv.Sep.new HS67.out hat (Kd.R_lt HR7w.out)); have HS68a := Lib.hid (Sv.Sep.new HS68.out hat (Kd.R_lt HR8w.out)); have HO10 := Lib.hid ho; have HB10 := Lib.hid hb; clear ho hb hg hat)
            | ((with_reducible refine gate_builtin (b := .append) (xs := #[.tmp 74, .tmp 76]) rfl ?_); at_builtin; refine Kd.R_append Kd.bool (w0 := w) w.heap.size rfl (.tmp 74) (.tmp 76) 26 4 _ 1 rfl Tryd.underlying26 infB rfl (by decide) (by decide) u8 (Sv.oks (l.take j)) false [.bool false] (fun _ => True) (fun k => False) ?aV ?aX ?aP ?aK (fun _ _ => trivial) ?aO ?aB ?aS ?aL ?_; (case aV => exact rfl); (case aX => exact rfl); (case aP => exact rfl); (case aK => exact fun k hk => absurd hk id); (case aO => exact HR8a.out); (case aB => exact HB10.out); (case aS => exact HB10.out.size); (case aL => (rw [Sv.oks_len, List.length_take]; omega)); intro v11 w11 ho hb hg hat; have HR6b := Lib.hid (Sv.R_keep2 HO10.out rfl hg HS68a.out.symm); have HR7b := Lib.hid (Sv.R_keep2 HR7a.out rfl hg HS78.out.symm); have HS68b := Lib.hid (Sv.Sep.symm (Sv.Sep.new HS68a.out.symm hat (Kd.R_lt HO10.out))); have HS78b := Lib.hid (Sv.Sep.symm (Sv.Sep.new HS78.out.symm hat (Kd.R_lt HR7a.out))); have HO11 := Lib.hid ho; have HB11 := Lib.hid hb; clear ho hb hg hat))
          go_roundw
          case measure => simp [intOf]; omega
          case rel =>
            have hN : Sv.st (l.take (j + 1)) = (all, (at_ + 1)) := by
              rw [HP.out, Sv.st_snoc, HSt.out]
              rfl
            have hT : Sv.tel (Sv.st (l.take j)) (2, pr, ad, po) = none := by
              rw [HSt.out]
              show all[at_ + 1]? = none
              exact List.getElem?_eq_none (by have := HMl.out; omega)
            refine ⟨j + 1, (at_ + 1), all, by go_num, by omega, by go_num, Lib.hid hN, Lib.hid ?_, HR7b, Lib.hid ?_, HS67a, HS68b, HS78b, HB11⟩
            · rw [HP.out, Sv.gots_snoc, hT]; exact HR6b.out
            · rw [HP.out, Sv.oks_snoc, hT]; exact HO11.out
      by_cases k3 : kd = 3
      · subst k3
        have HR6w : Hid (Sv.srvKd.R 30 ((wr.alloc (.cells #[.int .i64 3, .string pr, .string ad, .int .i64 po] 32)).alloc (.cells #[.string ⟨#[]⟩, .string ⟨#[]⟩, .int .i64 0] 30)) w.heap.size (fun _ => True) u6 (Sv.gots (l.take j))) := Lib.hid (Kd.R_below HR6.out (below_alloc (below_alloc (Below.refl wr.heap.size wr) _) _))
        have HR7w : Hid (Sv.srvKd.R 30 ((wr.alloc (.cells #[.int .i64 3, .string pr, .string ad, .int .i64 po] 32)).alloc (.cells #[.string ⟨#[]⟩, .string ⟨#[]⟩, .int .i64 0] 30)) w.heap.size (fun _ => True) (.slice A7 m c7) all) := Lib.hid (Kd.R_below HR7.out (below_alloc (below_alloc (Below.refl wr.heap.size wr) _) _))
        have HR8w : Hid (Kd.bool.R 4 ((wr.alloc (.cells #[.int .i64 3, .string pr, .string ad, .int .i64 po] 32)).alloc (.cells #[.string ⟨#[]⟩, .string ⟨#[]⟩, .int .i64 0] 30)) w.heap.size (fun _ => True) u8 (Sv.oks (l.take j))) := Lib.hid (Kd.R_below HR8.out (below_alloc (below_alloc (Below.refl wr.heap.size wr) _) _))
        have HBw : Hid (Below w.heap.size w ((wr.alloc (.cells #[.int .i64 3, .string pr, .string ad, .int .i64 po] 32)).alloc (.cells #[.string ⟨#[]⟩, .string ⟨#[]⟩, .int .i64 0] 30))) := Lib.hid (HB.out.trans (((below_alloc (below_alloc (Below.refl wr.heap.size wr) _) _)).mono HB.out.size))
        go_wp2_with (first
          | ((with_reducible refine gate_builtin (b := .append) (xs := #[.tmp 70, .tmp 72]) rfl ?_); at_builtin; refine Kd.R_append Sv.srvKd (w0 := w) w.heap.size rfl (.tmp 70) (.tmp 72) 25 30 _ 40 rfl Tryd.underlying25 infS rfl (by decide) (by decide) u6 (Sv.gots (l.take j)) (⟨#[]⟩, ⟨#[]⟩, 0) [.string ⟨#[]⟩, .string ⟨#[]⟩, .int .i64 0] (fun _ => True) (fun k => False) ?aV ?aX ?aP ?aK (fun _ _ => trivial) ?aO ?aB ?aS ?aL ?_; (case aV => exact rfl); (case aX => first | exact rfl | (simp only [World.size_alloc, World.size_setCell]; exact rfl) | (rw [(Kd.setCells_same _ _ _ _).2.2.2]; simp only [World.size_alloc]; exact rfl)); (case aP => exact Sv.srv_make _ _ _ _ _ _); (case aK => exact fun k hk => absurd hk id); (case aO => exact HR6w.out); (case aB => exact HBw.out); (case aS => exact HBw.out.size); (case aL => (rw [Sv.gots_len, List.length_take]; omega)); intro v10 w10 ho hb hg hat; have HR7a := Lib.hid (Sv.R_keep2 HR7w.out rfl hg HS67.out); have HR8a := Lib.hid (Sv.R_keep2 HR8w.out rfl hg HS68.out); have HS67a := Lib.hid (Sv.Sep.new HS67.out hat (Kd.R_lt HR7w.out)); have HS68a := Lib.hid (Sv.Sep.new HS68.out hat (Kd.R_lt HR8w.out)); have HO10 := Lib.hid ho; have HB10 := Lib.hid hb; clear ho hb hg hat)
          | ((with_reducible refine gate_builtin (b := .append) (xs := #[.tmp 74, .tmp 76]) rfl ?_); at_builtin; refine Kd.R_append Kd.bool (w0 := w) w.heap.size rfl (.tmp 74) (.tmp 76) 26 4 _ 1 rfl Tryd.underlying26 infB rfl (by decide) (by decide) u8 (Sv.oks (l.take j)) false [.bool false] (fun _ => True) (fun k => False) ?aV ?aX ?aP ?aK (fun _ _ => trivial) ?aO ?aB ?aS ?aL ?_; (case aV => exact rfl); (case aX => exact rfl); (case aP => exact rfl); (case aK => exact fun k hk => absurd hk id); (case aO => exact HR8a.out); (case aB => exact HB10.out); (case aS => exact HB10.out.size); (case aL => (rw [Sv.oks_len, List.length_take]; omega)); intro v11 w11 ho hb hg hat; have HR6b := Lib.hid (Sv.R_keep2 HO10.out rfl hg HS68a.out.symm); have HR7b := Lib.hid (Sv.R_keep2 HR7a.out rfl hg HS78.out.symm); have HS68b := Lib.hid (Sv.Sep.symm (Sv.Sep.new HS68a.out.symm hat (Kd.R_lt HO10.out))); have HS78b := Lib.hid (Sv.Sep.symm (Sv.Sep.new HS78.out.symm hat (Kd.R_lt HR7a.out))); have HO11 := Lib.hid ho; have HB11 := Lib.hid hb; clear ho hb hg hat))
        go_roundw
        case measure => simp [intOf]; omega
        case rel =>
          have hN : Sv.st (l.take (j + 1)) = (all, 0) := by
            rw [HP.out, Sv.st_snoc, HSt.out]
            rfl
          have hT : Sv.tel (Sv.st (l.take j)) (3, pr, ad, po) = none := by
            rw [HSt.out]
            rfl
          refine ⟨j + 1, 0, all, by go_num, by omega, rfl, Lib.hid hN, Lib.hid ?_, HR7b, Lib.hid ?_, HS67a, HS68b, HS78b, HB11⟩
          · rw [HP.out, Sv.gots_snoc, hT]; exact HR6b.out
          · rw [HP.out, Sv.oks_snoc, hT]; exact HO11.out
      · have q0 : decide (kd = 0) = false := decide_eq_false k0
        have q1 : decide (kd = 1) = false := decide_eq_false k1
        have q2 : decide (kd = 2) = false := decide_eq_false k2
        have q3 : decide (kd = 3) = false := decide_eq_false k3
        have HR6w : Hid (Sv.srvKd.R 30 ((wr.alloc (.cells #[.int .i64 kd, .string pr, .string ad, .int .i64 po] 32)).alloc (.cells #[.string ⟨#[]⟩, .string ⟨#[]⟩, .int .i64 0] 30)) w.heap.size (fun _ => True) u6 (Sv.gots (l.take j))) := Lib.hid (Kd.R_below HR6.out (below_alloc (below_alloc (Below.refl wr.heap.size wr) _) _))
        have HR7w : Hid (Sv.srvKd.R 30 ((wr.alloc (.cells #[.int .i64 kd, .string pr, .string ad, .int .i64 po] 32)).alloc (.cells #[.string ⟨#[]⟩, .string ⟨#[]⟩, .int .i64 0] 30)) w.heap.size (fun _ => True) (.slice A7 m c7) all) := Lib.hid (Kd.R_below HR7.out (below_alloc (below_alloc (Below.refl wr.heap.size wr) _) _))
        have HR8w : Hid (Kd.bool.R 4 ((wr.alloc (.cells #[.int .i64 kd, .string pr, .string ad, .int .i64 po] 32)).alloc (.cells #[.string ⟨#[]⟩, .string ⟨#[]⟩, .int .i64 0] 30)) w.heap.size (fun _ => True) u8 (Sv.oks (l.take j))) := Lib.hid (Kd.R_below HR8.out (below_alloc (below_alloc (Below.refl wr.heap.size wr) _) _))
        have HBw : Hid (Below w.heap.size w ((wr.alloc (.cells #[.int .i64 kd, .string pr, .string ad, .int .i64 po] 32)).alloc (.cells #[.string ⟨#[]⟩, .string ⟨#[]⟩, .int .i64 0] 30))) := Lib.hid (HB.out.trans (((below_alloc (below_alloc (Below.refl wr.heap.size wr) _) _)).mono HB.out.size))
        go_wp2_with (first
          | ((with_reducible refine gate_builtin (b := .append) (xs := #[.tmp 70, .tmp 72]) rfl ?_); at_builtin; refine Kd.R_append Sv.srvKd (w0 := w) w.heap.size rfl (.tmp 70) (.tmp 72) 25 30 _ 40 rfl Tryd.underlying25 infS rfl (by decide) (by decide) u6 (Sv.gots (l.take j)) (⟨#[]⟩, ⟨#[]⟩, 0) [.string ⟨#[]⟩, .string ⟨#[]⟩, .int .i64 0] (fun _ => True) (fun k => False) ?aV ?aX ?aP ?aK (fun _ _ => trivial) ?aO ?aB ?aS ?aL ?_; (case aV => exact rfl); (case aX => first | exact rfl | (simp only [World.size_alloc, World.size_setCell]; exact rfl) | (rw [(Kd.setCells_same _ _ _ _).2.2.2]; simp only [World.size_alloc]; exact rfl)); (case aP => exact Sv.srv_make _ _ _ _ _ _); (case aK => exact fun k hk => absurd hk id); (case aO => exact HR6w.out); (case aB => exact HBw.out); (case aS => exact HBw.out.size); (case aL => (rw [Sv.gots_len, List.length_take]; omega)); intro v10 w10 ho hb hg hat; have HR7a := Lib.hid (Sv.R_keep2 HR7w.out rfl hg HS67.out); have HR8a := Lib.hid (Sv.R_keep2 HR8w.out rfl hg HS68.out); have HS67a := Lib.hid (Sv.Sep.new HS67.out hat (Kd.R_lt HR7w.out)); have HS68a := Lib.hid (Sv.Sep.new HS68.out hat (Kd.R_lt HR8w.out)); have HO10 := Lib.hid ho; have HB10 := Lib.hid hb; clear ho hb hg hat)
          | ((with_reducible refine gate_builtin (b := .append) (xs := #[.tmp 74, .tmp 76]) rfl ?_); at_builtin; refine Kd.R_append Kd.bool (w0 := w) w.heap.size rfl (.tmp 74) (.tmp 76) 26 4 _ 1 rfl Tryd.underlying26 infB rfl (by decide) (by decide) u8 (Sv.oks (l.take j)) false [.bool false] (fun _ => True) (fun k => False) ?aV ?aX ?aP ?aK (fun _ _ => trivial) ?aO ?aB ?aS ?aL ?_; (case aV => exact rfl); (case aX => exact rfl); (case aP => exact rfl); (case aK => exact fun k hk => absurd hk id); (case aO => exact HR8a.out); (case aB => exact HB10.out); (case aS => exact HB10.out.size); (case aL => (rw [Sv.oks_len, List.length_take]; omega)); intro v11 w11 ho hb hg hat; have HR6b := Lib.hid (Sv.R_keep2 HO10.out rfl hg HS68a.out.symm); have HR7b := Lib.hid (Sv.R_keep2 HR7a.out rfl hg HS78.out.symm); have HS68b := Lib.hid (Sv.Sep.symm (Sv.Sep.new HS68a.out.symm hat (Kd.R_lt HO10.out))); have HS78b := Lib.hid (Sv.Sep.symm (Sv.Sep.new HS78.out.symm hat (Kd.R_lt HR7a.out))); have HO11 := Lib.hid ho; have HB11 := Lib.hid hb; clear ho hb hg hat))
        go_roundw
        case measure => simp [intOf]; omega
        case rel =>
          have hN : Sv.st (l.take (j + 1)) = (all, at_) := by
            rw [HP.out, Sv.st_snoc, HSt.out]
            simp [Sv.nxt, k0, k2, k3]
          have hT : Sv.tel (Sv.st (l.take j)) (kd, pr, ad, po) = none := by
            rw [HSt.out]
            simp [Sv.tel, k1, k2]
          refine ⟨j + 1, at_, all, by go_num, by omega, rfl, Lib.hid hN, Lib.hid ?_, HR7b, Lib.hid ?_, HS67a, HS68b, HS78b, HB11⟩
          · rw [HP.out, Sv.gots_snoc, hT]; exact HR6b.out
          · rw [HP.out, Sv.oks_snoc, hT]; exact HO11.out
    · have hjn : j = n := by omega
      have t2 : decide ((j : Int) < (n : Int)) = false := decide_eq_false (by omega)
      have hl : l.take j = l := List.take_of_length_le (by have := HN.out; omega)
      rw [hl] at HSt HR6 HR8
      have HE : Hid (Sv.SpecR 30 4 l w.heap.size (.returned (.tuple #[u6, u8, u7, .bool true])) wr) := Lib.hid (.inr ⟨u6, u8, u7, rfl, HR6.out, HR8.out, by rw [HSt.out]; exact HR7.out⟩)
      go_wp2
      refine bodyPost_ret (v := .tuple #[u6, u8, u7, .bool true]) (by simp [results, Tryd.results8, go_sem]) rfl ?_
      exact ⟨HE.out, HB.out⟩
end Go.Proofs.YtgjjmhhdncmigaaDoor.X
