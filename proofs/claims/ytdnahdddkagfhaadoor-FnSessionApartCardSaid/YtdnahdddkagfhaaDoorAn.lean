/- The law FnSessionApart: its walk. -/
import Derived.Test.YtdnahdddkagfhaaDoorAm
import Derived.Test.YtdnahdddkagfhaaDoorQo
namespace Go.Proofs.YtdnahdddkagfhaaDoor.X
open Go.RowKit Go.Proofs.YtdnahdddkagfhaaDoorW.PrintWords Go.Proofs.YtdnahdddkagfhaaDoorW.PrintMore
attribute [local go_sem] setCell_drewN alloc_drewN
set_option linter.unusedVariables false
set_option linter.unusedSimpArgs false
namespace Ses
theorem lit8 {x : Int} (h : (Lit.int .u8 x).wf = true) : 0 ≤ x ∧ x ≤ 255 := by
  simp only [Lit.wf, Bool.and_eq_true, decide_eq_true_eq] at h
  exact h
theorem lit64 {x : Int} (h : (Lit.int .u64 x).wf = true) : 0 ≤ x ∧ x ≤ 18446744073709551615 := by
  simp only [Lit.wf, Bool.and_eq_true, decide_eq_true_eq] at h
  exact h
theorem spok {p : SP} (h : p.wf) (hl : Long p = false) : SPok p := by
  obtain ⟨h1, h2, h3, h4, -, -⟩ := h
  simp only [Long, Bool.or_eq_false_iff, decide_eq_false_iff_not] at hl
  have a := lit8 h1
  have b := lit8 h2
  have c := lit64 h3
  exact ⟨a.1, a.2, b.1, b.2, c.1, by omega, by omega, by omega⟩
theorem okn_conv (s k n : Int) (s0 : 0 ≤ s) (n0 : 0 ≤ n) (n1 : n < 18446744073709551616) : OkN (numOf k s n) (szOf s) := by
  unfold OkN numOf szOf
  have h4 : s % 4 = 0 ∨ s % 4 = 1 ∨ s % 4 = 2 ∨ s % 4 = 3 := by omega
  rcases h4 with h | h | h | h <;> simp [h] <;> split <;> omega
theorem okp_conv {p : SP} (h : SPok p) (hf : 0 ≤ p.flag ∧ p.flag ≤ 255) : OkP (conv p) := by
  have hr := numOf_range (k := p.kind) (s := p.size) h.n0 h.n1
  have ho := okn_conv p.size p.kind p.num h.s0 h.n0 h.n1
  refine ⟨by have := h.data; show p.data.length ≤ 3000; omega, by have := h.other; show p.other.length ≤ 3000; omega, hf, fun hk => ?_, fun hk => ?_⟩
  · have hk' : p.kind % 6 = 2 := hk
    simp only [conv, if_pos hk']
    exact ⟨ho, hr.2.2 hk'⟩
  · have hk' : p.kind % 6 = 3 := hk
    simp only [conv, if_pos hk']
    exact ho
end Ses
namespace Ses
theorem lit8b {x : Int} (h : (Lit.int .u8 x).wf = true) : 0 ≤ x ∧ x ≤ 255 := lit8 h
theorem byt_wf {l : List Int} (h : ∀ x ∈ l, (Lit.int .u8 x).wf = true) : Byt l := fun x hx => lit8 (h x hx)
theorem toI_inj {a b : Int} (ha : 0 ≤ a ∧ a < 18446744073709551616) (hb : 0 ≤ b ∧ b < 18446744073709551616) (h : toI a = toI b) : a = b := by
  unfold toI at h
  rw [IntKind.wrap_i64, IntKind.wrap_i64] at h
  omega
/-- The part with other contents. -/
def put (p o : SP) : SP := { p with data := o.data, other := o.other, num := o.num, flag := o.flag }
theorem sm_seen {p o : SP} (hp : SPok p) (ho : 0 ≤ o.num ∧ o.num < 18446744073709551616) : sm (gotOf p) (gotOf (put p o)) = true ↔ seen (conv p) = seen (conv (put p o)) := by
  have hk : (put p o).kind = p.kind := rfl
  have h6 : p.kind % 6 = 0 ∨ p.kind % 6 = 1 ∨ p.kind % 6 = 2 ∨ p.kind % 6 = 3 ∨ p.kind % 6 = 4 ∨ p.kind % 6 = 5 := by have := hp.k0; omega
  have r1 := numOf_range (k := p.kind) (s := p.size) hp.n0 hp.n1
  have r2 := numOf_range (k := p.kind) (s := p.size) ho.1 ho.2
  have hnum : ∀ a b : Int, 0 ≤ a ∧ a < 18446744073709551616 → 0 ≤ b ∧ b < 18446744073709551616 → (toI a = toI b ↔ a = b) := fun a b ha hb => ⟨toI_inj ha hb, fun h => by rw [h]⟩
  have hN := hnum (numOf p.kind p.size p.num) (numOf p.kind p.size o.num) ⟨r1.1, r1.2.1⟩ ⟨r2.1, r2.2.1⟩
  unfold sm gotOf seen conv
  simp only [hk]
  rcases h6 with h | h | h | h | h | h
  all_goals simp [h, put, hN, and_assoc]
theorem gotOf_ok {p : SP} (h : p.wf) : (gotOf p).ok = true ∧ Byt (gotOf p).data ∧ Byt (gotOf p).other := by
  have hd := byt_wf h.2.2.2.2.1
  have ho := byt_wf h.2.2.2.2.2
  unfold gotOf
  split
  · exact ⟨rfl, fun x hx => by simp at hx, fun x hx => by simp at hx⟩
  · split
    · exact ⟨rfl, hd, ho⟩
    · exact ⟨rfl, hd, fun x hx => by simp at hx⟩
theorem sm_refl (g : Gt) : sm g g = true := by simp [sm]
theorem raw_cell {w : World} {g n k : Nat} {rs : List (V1 × V1 × V1 × V1 × V1 × V1 × V1 × V1)} {y : V1 × V1 × V1 × V1 × V1 × V1 × V1 × V1} (h : raw8.C w (some ⟨g, 0, none⟩) n rs) (hy : rs[k]? = some y) (i : Nat) (u : Value) (hu : (cells8 y)[i]? = some u) : w.cell? ⟨g, k * 8 + i, none⟩ = some u := by
  obtain ⟨h1, h2, h3⟩ := h
  have hk := (List.getElem?_eq_some_iff.1 hy).1
  obtain ⟨ad, had, hh⟩ := h3 (by omega)
  obtain rfl := Option.some.inj had
  obtain ⟨c, k1, k2, k3⟩ := hh k y hy
  have e := raw8_open k2
  subst e
  have := k3 i u hu
  rw [Lib.addr_add, Nat.zero_add] at this
  exact this
/-- What the message is told by. -/
theorem msg_seen {ps : List SP} {k : Nat} {p o : SP} {big : Bool} (hk : ps[k]? = some p) (hp : OkP (conv p)) (hq : OkP (conv (put p o))) : (ps.map conv).flatMap (stepB big 64) = ((ps.set k (put p o)).map conv).flatMap (stepB big 64) ↔ seen (conv p) = seen (conv (put p o)) := by
  obtain ⟨hl, e⟩ := List.getElem?_eq_some_iff.1 hk
  rw [List.flatMap_map, List.flatMap_map]
  rw [msg_set (fun a => stepB big 64 (conv a)) ps k hl (put p o), e]
  exact stepB_seen (by decide) (by decide) hp hq rfl rfl rfl rfl
theorem headB_byt (big : Bool) {n : Nat} (hn : n ≤ 255) : Byt (Dg.headB big n) := by
  unfold Dg.headB
  split
  · exact Dg.packed_byt _
  · intro x hx
    rw [List.mem_singleton.1 hx]
    omega
theorem chunks_byt (big : Bool) {c : Nat} (hc : c ≤ 252) : ∀ (k : Nat) (l : List Int), Byt l → Byt (Dg.chunksF big c k l)
  | 0, _, _ => fun x hx => by simp [Dg.chunksF] at hx
  | k + 1, l, hl => by
    rw [Dg.chunksF]
    split
    · intro x hx; simp at hx
    · intro x hx
      rcases List.mem_append.1 hx with h | h
      · rcases List.mem_append.1 h with h | h
        · exact headB_byt big (by rw [List.length_take]; omega) x h
        · exact hl x (List.mem_of_mem_take h)
      · exact chunks_byt big hc k (l.drop c) (fun y hy => hl y (List.mem_of_mem_drop hy)) x h
theorem clr_byt (big : Bool) {c : Nat} (hc : c ≤ 252) {l : List Int} (hl : Byt l) : Byt (Dg.clrB big c l) := by
  unfold Dg.clrB
  split
  · intro x hx
    rcases List.mem_cons.1 hx with rfl | h
    · omega
    · exact hl x h
  · intro x hx
    rcases List.mem_cons.1 hx with rfl | h
    · omega
    · rcases List.mem_append.1 h with h | h
      · exact chunks_byt big hc _ l hl x h
      · rw [List.mem_singleton.1 h]; omega
theorem dlc_byt (big : Bool) {c : Nat} (hc : c ≤ 252) {l : List Int} (hl : Byt l) : Byt (Dg.dlcB big c l) := by
  unfold Dg.dlcB
  split
  · intro x hx
    rw [List.mem_singleton.1 hx]; omega
  · intro x hx
    rcases List.mem_append.1 hx with h | h
    · exact Dg.packed_byt _ x h
    · exact clr_byt big hc hl x h
theorem fixed_byt {l : List Int} (hl : Byt l) : Byt (Dg.fixedB l) := by
  unfold Dg.fixedB
  split
  · intro x hx
    rcases List.mem_cons.1 hx with rfl | h
    · omega
    · exact hl x h
  · intro x hx
    rcases List.mem_cons.1 hx with rfl | h
    · omega
    · rcases List.mem_append.1 h with h | h
      · exact Dg.plainL_byt _ _ x (List.mem_reverse.1 h)
      · exact hl x h
theorem num_byt (two : Bool) (n s : Int) (be comp : Bool) : Byt (numB two n s be comp) := by
  unfold numB
  split
  · exact Dg.packed_byt _
  · split
    · exact fun x hx => Dg.plainL_byt _ _ x (List.mem_reverse.1 hx)
    · exact Dg.plainL_byt _ _
theorem step_byt (big : Bool) {c : Nat} (hc : c ≤ 252) {p : PS} (hd : Byt p.data) (ho : Byt p.other) : Byt (stepB big c p) := by
  unfold stepB
  split
  · exact hd
  · split
    · exact clr_byt big hc hd
    · split
      · exact num_byt _ _ _ _ _
      · split
        · exact num_byt _ _ _ _ _
        · split
          · intro x hx
            rcases List.mem_append.1 hx with h | h
            · rcases List.mem_append.1 h with h | h
              · exact dlc_byt big hc hd x h
              · exact dlc_byt big hc ho x h
            · exact Dg.packed_byt _ x h
          · split
            · exact fixed_byt hd
            · intro x hx; simp at hx
theorem msg_byt {ps : List SP} (big : Bool) (h : ∀ p ∈ ps, p.wf) : Byt ((ps.map conv).flatMap (stepB big 64)) := by
  intro x hx
  obtain ⟨a, ha, hx⟩ := List.mem_flatMap.1 hx
  obtain ⟨p, hp, rfl⟩ := List.mem_map.1 ha
  exact step_byt big (by decide) (byt_wf (h p hp).2.2.2.2.1) (byt_wf (h p hp).2.2.2.2.2) x hx
theorem set_all {α : Type} {P : α → Prop} {l : List α} {k : Nat} {q : α} (h : ∀ p ∈ l, P p) (hq : P q) : ∀ p ∈ l.set k q, P p := by
  intro p hp
  rcases List.mem_or_eq_of_mem_set hp with h1 | h1
  · exact h p h1
  · rw [h1]; exact hq
/-- The readings tell what the bytes tell. -/
theorem got_tells {ps : List SP} {k : Nat} {p o : SP} {big : Bool} {q : Bool} (hk : ps[k]? = some p) (hp : SPok p) (ho : 0 ≤ o.num ∧ o.num < 18446744073709551616) (h1 : OkP (conv p)) (h2 : OkP (conv (put p o))) (hq : q = decide ((ps.map conv).flatMap (stepB big 64) = ((ps.set k (put p o)).map conv).flatMap (stepB big 64))) :
    ((∀ (j : Nat) (x y : Gt), (ps.map gotOf)[j]? = some x → ((ps.set k (put p o)).map gotOf)[j]? = some y → sm x y = true) → q = true) ∧ ∀ (j : Nat) (x y : Gt), (ps.map gotOf)[j]? = some x → ((ps.set k (put p o)).map gotOf)[j]? = some y → sm x y = false → q = false := by
  have hm := msg_seen (big := big) hk h1 h2
  have hs := sm_seen hp ho
  have hkl := (List.getElem?_eq_some_iff.1 hk).1
  have e1 : (ps.map gotOf)[k]? = some (gotOf p) := by rw [List.getElem?_map, hk]; rfl
  have e2 : ((ps.set k (put p o)).map gotOf)[k]? = some (gotOf (put p o)) := by rw [List.getElem?_map, List.getElem?_set_self hkl]; rfl
  constructor
  · intro h
    rw [hq]
    exact decide_eq_true (hm.2 (hs.1 (h k _ _ e1 e2)))
  · intro j x y hx hy hxy
    rw [hq]
    refine decide_eq_false (fun he => ?_)
    by_cases hj : j = k
    · subst hj
      rw [e1] at hx
      rw [e2] at hy
      rw [← Option.some.inj hx, ← Option.some.inj hy, hs.2 (hm.1 he)] at hxy
      exact absurd hxy (by decide)
    · rw [List.getElem?_map, List.getElem?_set_ne (fun e => hj e.symm), ← List.getElem?_map, hx] at hy
      rw [← Option.some.inj hy, sm_refl] at hxy
      exact absurd hxy (by decide)
theorem wf_put {p o : SP} (h : p.wf) (ho : o.wf) : (put p o).wf := ⟨h.1, h.2.1, ho.2.2.1, ho.2.2.2.1, ho.2.2.2.2.1, ho.2.2.2.2.2⟩
theorem spok_put {p o : SP} (h : SPok p) (ho : SPok o) : SPok (put p o) := ⟨h.k0, h.k1, h.s0, h.s1, ho.n0, ho.n1, ho.data, ho.other⟩
end Ses
noncomputable def laws_FnSessionApart.f (ps : List Ses.SP) (at_ : Int) (o : Ses.SP) (big : Bool) : Option Bool := open Classical in if (∀ p ∈ ps, p.wf) ∧ o.wf ∧ 0 ≤ at_ ∧ at_ ≤ 255 then some true else none
set_option maxHeartbeats 16000000 in
set_option maxRecDepth 100000 in
theorem laws_FnSessionApart.calls (A0 : Option Addr) (c0 : Nat) (ps : List Ses.SP) (at_ : Int) (o : Ses.SP) (OA OB : Option Addr) (oc od : Nat) (big : Bool) (r : Bool) (w : World) (hr0 : Ses.spKd.C w A0 ps.length ps) (hc0 : ps.length ≤ c0) (l1 : o.data.length ≤ oc) (l2 : o.other.length ≤ od) (C1 : Kd.C (Kd.int .u8) w OA o.data.length o.data) (C2 : Kd.C (Kd.int .u8) w OB o.other.length o.other) (h : laws_FnSessionApart.f ps at_ o big = some r) :
    Calls Tryd.prog 12 #[.slice A0 ps.length c0, .int .u8 at_, .agg #[.int .u8 o.kind, .int .u8 o.size, .int .u64 o.num, .bool o.big, .bool o.comp, .int .u8 o.flag, .slice OA o.data.length oc, .slice OB o.other.length od], .bool big] w fun e w' => e = .returned (.bool r) ∧ Below w.heap.size w w' := by
  unfold laws_FnSessionApart.f at h
  split at h
  case isFalse => cases h
  rename_i hsz
  obtain ⟨hwf, how, at0, at1⟩ := hsz
  obtain rfl := Option.some.inj h
  clear h
  have HR := Lib.hid hr0
  have HWf := Lib.hid hwf
  have HOw := Lib.hid how
  have HC1 := Lib.hid C1
  have HC2 := Lib.hid C2
  have HL1 := Lib.hid l1
  have HL2 := Lib.hid l2
  have HF11 := Lib.hid (fun (W : World) (h : Below w.heap.size w W) => zzFits11_ok ps A0 c0 W (Kd.C_below HR.out h))
  have HFit := Lib.hid (fun (W : World) (h : Below w.heap.size w W) => sessionFits_ok ps A0 c0 W (Kd.C_below HR.out h))
  have HF12 := Lib.hid (fun (W : World) => zzFits12_ok o.kind o.size o.num o.flag o.big o.comp OA OB o.data.length oc o.other.length od W)
  have HFit1 : Hid (∀ (W : World) (g : Nat), Below w.heap.size w W → W.heap[g]? = some (.cells #[.int .u8 o.kind, .int .u8 o.size, .int .u64 o.num, .bool o.big, .bool o.comp, .int .u8 o.flag, .slice OA o.data.length oc, .slice OB o.other.length od] 70 (0, 0)) → Calls Tryd.prog 25 #[.slice (some ⟨g, 0, none⟩) 1 1] W fun e w' => e = .returned (.bool (!Ses.Long o)) ∧ Below W.heap.size W w') := Lib.hid (fun W g hW hg => (sessionFits_ok [o] (some ⟨g, 0, none⟩) 1 W (Ses.one_C hg l1 l2 (Kd.C_below C1 hW) (Kd.C_below C2 hW))).mono (by
    rintro e w' ⟨rfl, hb⟩
    exact ⟨by simp, hb⟩))
  obtain ⟨b1, hb1⟩ : ∃ b, b = (decide ((ps.length : Int) ≤ 2147483647) && ps.all Ses.Fit) := ⟨_, rfl⟩
  obtain ⟨b2, hb2⟩ : ∃ b, b = (decide (ps.length ≤ 20) && !ps.any Ses.Long) := ⟨_, rfl⟩
  obtain ⟨b3, hb3⟩ : ∃ b, b = (decide ((o.data.length : Int) ≤ 2147483647) && decide ((o.other.length : Int) ≤ 2147483647)) := ⟨_, rfl⟩
  obtain ⟨b4, hb4⟩ : ∃ b, b = (!Ses.Long o) := ⟨_, rfl⟩
  rw [← hb1] at HF11
  rw [← hb2] at HFit
  rw [← hb3] at HF12
  rw [← hb4] at HFit1
  have HB2 := Lib.hid hb2
  have HB4 := Lib.hid hb4
  clear hr0 hwf hb1 hb2 hb3 hb4 how C1 C2 l1 l2
  obtain ⟨n, hnl⟩ : ∃ n, n = ps.length := ⟨_, rfl⟩
  rw [← hnl] at HF11 HFit HB2 ⊢
  have HN := Lib.hid hnl
  rw [← hnl] at hc0
  clear hnl
  -- letters for the part's fields
  obtain ⟨ok, hok⟩ : ∃ x, x = o.kind := ⟨_, rfl⟩
  obtain ⟨os, hos⟩ : ∃ x, x = o.size := ⟨_, rfl⟩
  obtain ⟨on, hon⟩ : ∃ x, x = o.num := ⟨_, rfl⟩
  obtain ⟨ob, hob⟩ : ∃ x, x = o.big := ⟨_, rfl⟩
  obtain ⟨om, hom⟩ : ∃ x, x = o.comp := ⟨_, rfl⟩
  obtain ⟨ofl, hofl⟩ : ∃ x, x = o.flag := ⟨_, rfl⟩
  obtain ⟨ol, hol⟩ : ∃ x, x = o.data.length := ⟨_, rfl⟩
  obtain ⟨oo, hoo⟩ : ∃ x, x = o.other.length := ⟨_, rfl⟩
  rw [← hok, ← hos, ← hon, ← hob, ← hom, ← hofl, ← hol, ← hoo] at HF12 HFit1 ⊢
  rw [← hol] at HL1 HC1
  rw [← hoo] at HL2 HC2
  have HOn := Lib.hid hon
  have HOf := Lib.hid hofl
  have HOl := Lib.hid hol
  have HOo := Lib.hid hoo
  clear hok hos hon hob hom hofl hol hoo
  obtain ⟨w0, hw0⟩ : ∃ w0, w0 = w.alloc (.cells #[.int .u8 ok, .int .u8 os, .int .u64 on, .bool ob, .bool om, .int .u8 ofl, .slice OA ol oc, .slice OB oo od] 70) := ⟨_, rfl⟩
  have HB0 : Hid (Below w.heap.size w w0) := Lib.hid (by rw [hw0]; exact below_alloc (Below.refl _ _) _)
  have hz0 : w0.heap.size = w.heap.size + 1 := by rw [hw0, World.size_alloc]
  have hbx : w0.heap[w.heap.size]? = some (.cells #[.int .u8 ok, .int .u8 os, .int .u64 on, .bool ob, .bool om, .int .u8 ofl, .slice OA ol oc, .slice OB oo od] 70 (0, 0)) := by rw [hw0]; exact xb_new _ _
  have HBx := Lib.hid hbx
  have HF11b := Lib.hid (HF11.out w0 HB0.out)
  clear hbx
  go_enter Tryd.func12, Tryd.ntmps12
  go_wp2_with fail
  rw [← hw0]
  by_cases hn0 : n = 0
  · subst hn0
    go_wp2_with (first
      | (go_at_call 24; (with_reducible refine HF11b.out.mono ?_); rintro e w1 ⟨rfl, hb1⟩; have kx := blk_bl HBx.out hb1 (by omega); have x0 : w1.cell? ⟨w.heap.size, 0, none⟩ = some (.int .u8 ok) := xb_cell kx 0; have x1 : w1.cell? ⟨w.heap.size, 1, none⟩ = some (.int .u8 os) := xb_cell kx 1; have x2 : w1.cell? ⟨w.heap.size, 2, none⟩ = some (.int .u64 on) := xb_cell kx 2; have x3 : w1.cell? ⟨w.heap.size, 3, none⟩ = some (.bool ob) := xb_cell kx 3; have x4 : w1.cell? ⟨w.heap.size, 4, none⟩ = some (.bool om) := xb_cell kx 4; have x5 : w1.cell? ⟨w.heap.size, 5, none⟩ = some (.int .u8 ofl) := xb_cell kx 5; have x6 : w1.cell? ⟨w.heap.size, 6, none⟩ = some (.slice OA ol oc) := xb_cell kx 6; have x7 : w1.cell? ⟨w.heap.size, 7, none⟩ = some (.slice OB oo od) := xb_cell kx 7; have HBx1 := Lib.hid kx; have HB1 := Lib.hid (HB0.out.trans (hb1.mono HB0.out.size)); clear hb1 kx; cases b1)
      | (go_at_call 36; (with_reducible refine (HF12.out _).mono ?_); rintro e w2 ⟨rfl, hb2⟩; have kx := blk_bl HBx1.out hb2 (xb_lt HBx1.out); have y0 : w2.cell? ⟨w.heap.size, 0, none⟩ = some (.int .u8 ok) := xb_cell kx 0; have y1 : w2.cell? ⟨w.heap.size, 1, none⟩ = some (.int .u8 os) := xb_cell kx 1; have y2 : w2.cell? ⟨w.heap.size, 2, none⟩ = some (.int .u64 on) := xb_cell kx 2; have y3 : w2.cell? ⟨w.heap.size, 3, none⟩ = some (.bool ob) := xb_cell kx 3; have y4 : w2.cell? ⟨w.heap.size, 4, none⟩ = some (.bool om) := xb_cell kx 4; have y5 : w2.cell? ⟨w.heap.size, 5, none⟩ = some (.int .u8 ofl) := xb_cell kx 5; have y6 : w2.cell? ⟨w.heap.size, 6, none⟩ = some (.slice OA ol oc) := xb_cell kx 6; have y7 : w2.cell? ⟨w.heap.size, 7, none⟩ = some (.slice OB oo od) := xb_cell kx 7; have HBx2 := Lib.hid kx; clear x0 x1 x2 x3 x4 x5 x6 x7; have HB2w := Lib.hid (HB1.out.trans (hb2.mono HB1.out.size)); clear hb2 kx; cases b3)
      | (go_at_call 25; (with_reducible refine (HFit.out _ HB2w.out).mono ?_); rintro e w3 ⟨rfl, hb3⟩; have HB3 := Lib.hid (HB2w.out.trans (hb3.mono HB2w.out.size)); clear hb3; cases b2)
      | (go_at_call 14; (with_reducible refine (sessionLive_calls _).mono ?_); rintro e w9 ⟨rfl, hb9⟩; have HB9 := Lib.hid hb9; clear hb9))
    all_goals first
      | (go_ret; exact ⟨rfl, HB1.out⟩)
      | (go_ret; exact ⟨rfl, HB2w.out⟩)
      | (go_ret; exact ⟨rfl, HB3.out.trans (HB9.out.mono HB3.out.size)⟩)
  · obtain ⟨a, rfl⟩ : ∃ a, A0 = some a := by
      obtain ⟨ad, e, -⟩ := HR.out.2.2 (by have := HN.out; omega)
      exact ⟨ad, e⟩
    have hnp : 0 < n := by omega
    have t0 : decide (n = 0) = false := decide_eq_false hn0
    have t0b : decide ((n : Int) = 0) = false := decide_eq_false (by omega)
    have t0c : ¬ (n : Int) = 0 := by omega
    have t0d : ((n : Int) == 0) = false := beq_eq_false_iff_ne.2 t0c
    have HB2' : Hid (b2 = true → n ≤ 20 ∧ ∀ p ∈ ps, Ses.Long p = false) := Lib.hid (fun h => by
      have h2 := HB2.out
      rw [h] at h2
      have h3 := h2.symm
      rw [Bool.and_eq_true, Bool.not_eq_true', decide_eq_true_eq] at h3
      exact ⟨h3.1, fun p hp => by have := (List.any_eq_false.1 h3.2) p hp; simpa using this⟩)
    have HB4' : Hid (b4 = true → Ses.Long o = false) := Lib.hid (fun h => by
      have h2 := HB4.out
      rw [h] at h2
      simpa using h2.symm)
    clear HB2 HB4
    obtain ⟨k, hk⟩ : ∃ k : Nat, (k : Int) = at_ % (n : Int) := ⟨(at_ % (n : Int)).toNat, Int.toNat_of_nonneg (Int.emod_nonneg _ t0c)⟩
    have hke : at_ % (n : Int) = (k : Int) := hk.symm
    have hkn : k < n := by have := Int.emod_lt_of_pos at_ (show (0 : Int) < (n : Int) by omega); omega
    have hrem : at_.tmod (n : Int) = (k : Int) := by rw [Int.tmod_eq_emod_of_nonneg at0, hk]
    have hkI : (k : Int) < (n : Int) := by omega
    have hk0 : (0 : Int) ≤ (k : Int) := Int.natCast_nonneg _
    have hwk : IntKind.i64.wrap (at_.tmod (n : Int)) = (k : Int) := by rw [hrem]; exact (IntKind.wrap_i64 _).trans (by have h1 := HN.out; have h2 := Kd.C_max HR.out; omega)
    clear hk
    have hwa : IntKind.i64.wrap at_ = at_ := (IntKind.wrap_i64 _).trans (by omega)
    have HCl : Hid (∀ W : World, Below w.heap.size w W → n ≤ 20 → Calls Tryd.prog 37 #[.slice (some a) n c0] W fun e w' => ∃ g c, e = .returned (.slice (some ⟨g, 0, none⟩) n c) ∧ W.heap.size ≤ g ∧ n ≤ c ∧ (∃ rs : List (Ses.V1 × Ses.V1 × Ses.V1 × Ses.V1 × Ses.V1 × Ses.V1 × Ses.V1 × Ses.V1), rs.length = n ∧ Ses.raw8.C w' (some ⟨g, 0, none⟩) n rs ∧ ∀ (j : Nat) y p, rs[j]? = some y → ps[j]? = some p → Ses.GoodP W y p) ∧ (∃ cells, w'.heap[g]? = some (.cells cells 70 (0, 0))) ∧ Below W.heap.size W w') := Lib.hid (fun W hW h20 => by
      have h := cloneParts_ok ps a c0 W (Kd.C_below HR.out hW) (by have := HN.out; omega) (by have := HN.out; omega) (by have := HN.out; omega)
      rw [← HN.out] at h
      exact h)
    go_wp2_with (first
      | (go_at_call 24; (with_reducible refine HF11b.out.mono ?_); rintro e w1 ⟨rfl, hb1⟩; have kx := blk_bl HBx.out hb1 (by omega); have x0 : w1.cell? ⟨w.heap.size, 0, none⟩ = some (.int .u8 ok) := xb_cell kx 0; have x1 : w1.cell? ⟨w.heap.size, 1, none⟩ = some (.int .u8 os) := xb_cell kx 1; have x2 : w1.cell? ⟨w.heap.size, 2, none⟩ = some (.int .u64 on) := xb_cell kx 2; have x3 : w1.cell? ⟨w.heap.size, 3, none⟩ = some (.bool ob) := xb_cell kx 3; have x4 : w1.cell? ⟨w.heap.size, 4, none⟩ = some (.bool om) := xb_cell kx 4; have x5 : w1.cell? ⟨w.heap.size, 5, none⟩ = some (.int .u8 ofl) := xb_cell kx 5; have x6 : w1.cell? ⟨w.heap.size, 6, none⟩ = some (.slice OA ol oc) := xb_cell kx 6; have x7 : w1.cell? ⟨w.heap.size, 7, none⟩ = some (.slice OB oo od) := xb_cell kx 7; have HBx1 := Lib.hid kx; have HB1 := Lib.hid (HB0.out.trans (hb1.mono HB0.out.size)); clear hb1 kx; cases b1)
      | (go_at_call 36; (with_reducible refine (HF12.out _).mono ?_); rintro e w2 ⟨rfl, hb2⟩; have kx := blk_bl HBx1.out hb2 (xb_lt HBx1.out); have y0 : w2.cell? ⟨w.heap.size, 0, none⟩ = some (.int .u8 ok) := xb_cell kx 0; have y1 : w2.cell? ⟨w.heap.size, 1, none⟩ = some (.int .u8 os) := xb_cell kx 1; have y2 : w2.cell? ⟨w.heap.size, 2, none⟩ = some (.int .u64 on) := xb_cell kx 2; have y3 : w2.cell? ⟨w.heap.size, 3, none⟩ = some (.bool ob) := xb_cell kx 3; have y4 : w2.cell? ⟨w.heap.size, 4, none⟩ = some (.bool om) := xb_cell kx 4; have y5 : w2.cell? ⟨w.heap.size, 5, none⟩ = some (.int .u8 ofl) := xb_cell kx 5; have y6 : w2.cell? ⟨w.heap.size, 6, none⟩ = some (.slice OA ol oc) := xb_cell kx 6; have y7 : w2.cell? ⟨w.heap.size, 7, none⟩ = some (.slice OB oo od) := xb_cell kx 7; have HBx2 := Lib.hid kx; clear x0 x1 x2 x3 x4 x5 x6 x7; have HB2w := Lib.hid (HB1.out.trans (hb2.mono HB1.out.size)); clear hb2 kx; cases b3)
      | (go_at_call 25; (with_reducible refine (HFit.out _ HB2w.out).mono ?_); rintro e w3 ⟨rfl, hb3⟩; have kx := blk_bl HBx2.out hb3 (xb_lt HBx2.out); have z0 : w3.cell? ⟨w.heap.size, 0, none⟩ = some (.int .u8 ok) := xb_cell kx 0; have z1 : w3.cell? ⟨w.heap.size, 1, none⟩ = some (.int .u8 os) := xb_cell kx 1; have z2 : w3.cell? ⟨w.heap.size, 2, none⟩ = some (.int .u64 on) := xb_cell kx 2; have z3 : w3.cell? ⟨w.heap.size, 3, none⟩ = some (.bool ob) := xb_cell kx 3; have z4 : w3.cell? ⟨w.heap.size, 4, none⟩ = some (.bool om) := xb_cell kx 4; have z5 : w3.cell? ⟨w.heap.size, 5, none⟩ = some (.int .u8 ofl) := xb_cell kx 5; have z6 : w3.cell? ⟨w.heap.size, 6, none⟩ = some (.slice OA ol oc) := xb_cell kx 6; have z7 : w3.cell? ⟨w.heap.size, 7, none⟩ = some (.slice OB oo od) := xb_cell kx 7; have HBx3 := Lib.hid kx; clear y0 y1 y2 y3 y4 y5 y6 y7; have HB3 := Lib.hid (HB2w.out.trans (hb3.mono HB2w.out.size)); clear hb3 kx; cases b2)
      | (go_at_call 25; (refine (HFit1.out _ w3.heap.size (below_alloc HB3.out _) (xb_new _ _)).mono ?_); rintro e w4 ⟨rfl, hb4⟩; have kx := blk_bl (xb_alloc HBx3.out) hb4 (by rw [World.size_alloc]; exact Nat.lt_succ_of_lt (xb_lt HBx3.out)); have u0 : w4.cell? ⟨w.heap.size, 0, none⟩ = some (.int .u8 ok) := xb_cell kx 0; have u1 : w4.cell? ⟨w.heap.size, 1, none⟩ = some (.int .u8 os) := xb_cell kx 1; have u2 : w4.cell? ⟨w.heap.size, 2, none⟩ = some (.int .u64 on) := xb_cell kx 2; have u3 : w4.cell? ⟨w.heap.size, 3, none⟩ = some (.bool ob) := xb_cell kx 3; have u4 : w4.cell? ⟨w.heap.size, 4, none⟩ = some (.bool om) := xb_cell kx 4; have u5 : w4.cell? ⟨w.heap.size, 5, none⟩ = some (.int .u8 ofl) := xb_cell kx 5; have u6 : w4.cell? ⟨w.heap.size, 6, none⟩ = some (.slice OA ol oc) := xb_cell kx 6; have u7 : w4.cell? ⟨w.heap.size, 7, none⟩ = some (.slice OB oo od) := xb_cell kx 7; have HBx4 := Lib.hid kx; clear z0 z1 z2 z3 z4 z5 z6 z7; have HB4w : Hid (Below w.heap.size w w4) := Lib.hid ((below_alloc HB3.out _).trans (hb4.mono (below_alloc HB3.out _).size)); clear hb4 kx; cases b4)
      | (go_at_call 37; (with_reducible refine (HCl.out _ HB4w.out (HB2'.out (by simp)).1).mono ?_); rintro e w6 ⟨g, c, rfl, hg1, hg2, ⟨rs, hrs1, hrs2, hrs3⟩, hcell, hb6⟩; have kx := blk_bl HBx4.out hb6 (xb_lt HBx4.out); have v0 : w6.cell? ⟨w.heap.size, 0, none⟩ = some (.int .u8 ok) := xb_cell kx 0; have v1 : w6.cell? ⟨w.heap.size, 1, none⟩ = some (.int .u8 os) := xb_cell kx 1; have v2 : w6.cell? ⟨w.heap.size, 2, none⟩ = some (.int .u64 on) := xb_cell kx 2; have v3 : w6.cell? ⟨w.heap.size, 3, none⟩ = some (.bool ob) := xb_cell kx 3; have v4 : w6.cell? ⟨w.heap.size, 4, none⟩ = some (.bool om) := xb_cell kx 4; have v5 : w6.cell? ⟨w.heap.size, 5, none⟩ = some (.int .u8 ofl) := xb_cell kx 5; have v6 : w6.cell? ⟨w.heap.size, 6, none⟩ = some (.slice OA ol oc) := xb_cell kx 6; have v7 : w6.cell? ⟨w.heap.size, 7, none⟩ = some (.slice OB oo od) := xb_cell kx 7; have HBx6 := Lib.hid kx; clear u0 u1 u2 u3 u4 u5 u6 u7; have HB6 := Lib.hid hb6; have HCell := Lib.hid hcell; have HRs1 := Lib.hid hrs1; have HRs2 := Lib.hid hrs2; have HRs3 := Lib.hid hrs3; have HSz4 := Lib.hid (xb_lt HBx4.out); clear hb6 hcell hrs1 hrs2 hrs3 kx)
      | (go_at_call 14; (with_reducible refine (sessionLive_calls _).mono ?_); rintro e w9 ⟨rfl, hb9⟩; have HB9 := Lib.hid hb9; clear hb9))
    all_goals first
      | (go_ret; exact ⟨rfl, HB1.out⟩)
      | (go_ret; exact ⟨rfl, HB2w.out⟩)
      | (go_ret; exact ⟨rfl, HB3.out.trans (HB9.out.mono HB3.out.size)⟩)
      | (go_ret; exact ⟨rfl, HB4w.out.trans (HB9.out.mono HB4w.out.size)⟩)
      | skip
    obtain ⟨p, hp⟩ : ∃ p, ps[k]? = some p := ⟨_, List.getElem?_eq_getElem (by have := HN.out; omega)⟩
    obtain ⟨y, hy⟩ : ∃ y, rs[k]? = some y := ⟨_, List.getElem?_eq_getElem (by have := HRs1.out; omega)⟩
    obtain ⟨P1, pc1, P2, pc2, rfl, lp1, lp2, cp1, cp2⟩ := HRs3.out k y p hy hp
    have HP := Lib.hid hp
    have HY := Lib.hid hy
    have HB64 : Hid (Below w4.heap.size w4 w6.drew) := Lib.hid (below_drew HB6.out)
    have HM0 : Hid (Ses.raw8.C w6.drew (some ⟨g, 0, none⟩) n rs) := Lib.hid (Kd.C_below HRs2.out (below_drew (Below.refl _ _)))
    have HT0 : Hid (∃ cells, w6.drew.heap[g]? = some (.cells cells 70 (0, 0))) := Lib.hid HCell.out
    have hgx : ¬ w.heap.size = g := by have := HSz4.out; omega
    have Hv2 : w6.drew.cell? ⟨w.heap.size, 2, none⟩ = some (.int .u64 on) := v2
    have Hv5 : w6.drew.cell? ⟨w.heap.size, 5, none⟩ = some (.int .u8 ofl) := v5
    have Hv6 : w6.drew.cell? ⟨w.heap.size, 6, none⟩ = some (.slice OA ol oc) := v6
    have Hv7 : w6.drew.cell? ⟨w.heap.size, 7, none⟩ = some (.slice OB oo od) := v7
    clear hp hy lp1 lp2 cp1 cp2
    refine wp_region_noPanic ?_
    refine wp_region_held_drew (S := fun w' => w'.cell? ⟨w.heap.size, 2, none⟩ = some (.int .u64 on) ∧ w'.cell? ⟨w.heap.size, 5, none⟩ = some (.int .u8 ofl) ∧ w'.cell? ⟨w.heap.size, 6, none⟩ = some (.slice OA ol oc) ∧ w'.cell? ⟨w.heap.size, 7, none⟩ = some (.slice OB oo od)) (by kernel_rfl) ⟨v2, v5, v6, v7⟩ (fun hHeld => ?_)
    generalize w6.drew = u0 at *
    refine wpAnyH_take (i := 0) (v := ?_) rfl (by kernel_rfl) (by kernel_rfl) (by kernel_rfl) (fun _ _ _ h => h) (Or.inl ⟨by rfl, ?_⟩) (by assumption) ?_
    rotate_left
    · intro w hSw
      obtain ⟨x2, x5, x6, x7⟩ := hSw
      go_simp
      try (with_reducible rfl)
    try simp only [Act.put, List.getElem_toArray, List.getElem_cons_succ, List.getElem_cons_zero, List.setIfInBounds_toArray, List.set_cons_zero, List.set_cons_succ]
    refine wpAnyH_take (i := 1) (v := ?_) rfl (by kernel_rfl) (by kernel_rfl) (by kernel_rfl) (fun _ _ _ h => h) (Or.inl ⟨by rfl, ?_⟩) (by assumption) ?_
    rotate_left
    · intro w hSw
      obtain ⟨x2, x5, x6, x7⟩ := hSw
      go_simp
      try (with_reducible rfl)
    try simp only [Act.put, List.getElem_toArray, List.getElem_cons_succ, List.getElem_cons_zero, List.setIfInBounds_toArray, List.set_cons_zero, List.set_cons_succ]
    refine wpAnyH_take (i := 2) (v := ?_) rfl (by kernel_rfl) (by kernel_rfl) (by kernel_rfl) (fun _ _ _ h => h) (Or.inl ⟨by rfl, ?_⟩) (by assumption) ?_
    rotate_left
    · intro w hSw
      obtain ⟨x2, x5, x6, x7⟩ := hSw
      go_simp
      try (with_reducible rfl)
    try simp only [Act.put, List.getElem_toArray, List.getElem_cons_succ, List.getElem_cons_zero, List.setIfInBounds_toArray, List.set_cons_zero, List.set_cons_succ]
    refine wpAnyH_take (i := 3) (v := ?_) rfl (by kernel_rfl) (by kernel_rfl) (by kernel_rfl) (fun _ _ _ h => h) (Or.inl ⟨by rfl, ?_⟩) (by assumption) ?_
    rotate_left
    · intro w hSw
      obtain ⟨x2, x5, x6, x7⟩ := hSw
      go_simp
      try (with_reducible rfl)
    try simp only [Act.put, List.getElem_toArray, List.getElem_cons_succ, List.getElem_cons_zero, List.setIfInBounds_toArray, List.set_cons_zero, List.set_cons_succ]
    refine wpAnyH_take (i := 4) (v := ?_) rfl (by kernel_rfl) (by kernel_rfl) (by kernel_rfl) (fun _ _ _ h => h) (Or.inl ⟨by rfl, ?_⟩) (by assumption) ?_
    rotate_left
    · intro w hSw
      obtain ⟨x2, x5, x6, x7⟩ := hSw
      go_simp
      try (with_reducible rfl)
    try simp only [Act.put, List.getElem_toArray, List.getElem_cons_succ, List.getElem_cons_zero, List.setIfInBounds_toArray, List.set_cons_zero, List.set_cons_succ]
    refine wpAnyH_take (i := 5) (v := ?_) rfl (by kernel_rfl) (by kernel_rfl) (by kernel_rfl) (fun _ _ _ h => h) (Or.inl ⟨by rfl, ?_⟩) (by assumption) ?_
    rotate_left
    · intro w hSw
      obtain ⟨x2, x5, x6, x7⟩ := hSw
      go_simp
      try (with_reducible rfl)
    try simp only [Act.put, List.getElem_toArray, List.getElem_cons_succ, List.getElem_cons_zero, List.setIfInBounds_toArray, List.set_cons_zero, List.set_cons_succ]
    refine wpAnyH_take (i := 6) (v := ?_) rfl (by kernel_rfl) (by kernel_rfl) (by kernel_rfl) (fun _ _ _ h => h) (Or.inl ⟨by rfl, ?_⟩) (by assumption) ?_
    rotate_left
    · intro w hSw
      obtain ⟨x2, x5, x6, x7⟩ := hSw
      go_simp
      try (with_reducible rfl)
    try simp only [Act.put, List.getElem_toArray, List.getElem_cons_succ, List.getElem_cons_zero, List.setIfInBounds_toArray, List.set_cons_zero, List.set_cons_succ]
    refine wpAnyH_take (i := 7) (v := ?_) rfl (by kernel_rfl) (by kernel_rfl) (by kernel_rfl) (fun _ _ _ h => h) (Or.inl ⟨by rfl, ?_⟩) (by assumption) ?_
    rotate_left
    · intro w hSw
      obtain ⟨x2, x5, x6, x7⟩ := hSw
      go_simp
      try (with_reducible rfl)
    try simp only [Act.put, List.getElem_toArray, List.getElem_cons_succ, List.getElem_cons_zero, List.setIfInBounds_toArray, List.set_cons_zero, List.set_cons_succ]
    refine wpAnyH_take (i := 8) (v := ?_) rfl (by kernel_rfl) (by kernel_rfl) (by kernel_rfl) (fun _ _ _ h => h) (Or.inl ⟨by rfl, ?_⟩) (by assumption) ?_
    rotate_left
    · intro w hSw
      obtain ⟨x2, x5, x6, x7⟩ := hSw
      go_simp
      try (with_reducible rfl)
    try simp only [Act.put, List.getElem_toArray, List.getElem_cons_succ, List.getElem_cons_zero, List.setIfInBounds_toArray, List.set_cons_zero, List.set_cons_succ]
    refine wpAnyH_take (i := 9) (v := ?_) rfl (by kernel_rfl) (by kernel_rfl) (by kernel_rfl) (fun _ _ _ h => h) (Or.inl ⟨by rfl, ?_⟩) (by assumption) ?_
    rotate_left
    · intro w hSw
      obtain ⟨x2, x5, x6, x7⟩ := hSw
      go_simp
      try (with_reducible rfl)
    try simp only [Act.put, List.getElem_toArray, List.getElem_cons_succ, List.getElem_cons_zero, List.setIfInBounds_toArray, List.set_cons_zero, List.set_cons_succ]
    refine wpAnyH_take (i := 10) (v := ?_) rfl (by kernel_rfl) (by kernel_rfl) (by kernel_rfl) (fun _ _ _ h => h) (Or.inl ⟨by rfl, ?_⟩) (by assumption) ?_
    rotate_left
    · intro w hSw
      obtain ⟨x2, x5, x6, x7⟩ := hSw
      go_simp
      try (with_reducible rfl)
    try simp only [Act.put, List.getElem_toArray, List.getElem_cons_succ, List.getElem_cons_zero, List.setIfInBounds_toArray, List.set_cons_zero, List.set_cons_succ]
    refine wpAnyH_take (i := 11) (v := ?_) rfl (by kernel_rfl) (by kernel_rfl) (by kernel_rfl) (fun _ _ _ h => h) (Or.inl ⟨by rfl, ?_⟩) (by assumption) ?_
    rotate_left
    · intro w hSw
      obtain ⟨x2, x5, x6, x7⟩ := hSw
      go_simp
      try (with_reducible rfl)
    try simp only [Act.put, List.getElem_toArray, List.getElem_cons_succ, List.getElem_cons_zero, List.setIfInBounds_toArray, List.set_cons_zero, List.set_cons_succ]
    refine wpAnyH_take (i := 12) (v := ?_) rfl (by kernel_rfl) (by kernel_rfl) (by kernel_rfl) (fun _ _ _ h => h) (Or.inl ⟨by rfl, ?_⟩) (by assumption) ?_
    rotate_left
    · intro w hSw
      obtain ⟨x2, x5, x6, x7⟩ := hSw
      go_simp
      try (with_reducible rfl)
    try simp only [Act.put, List.getElem_toArray, List.getElem_cons_succ, List.getElem_cons_zero, List.setIfInBounds_toArray, List.set_cons_zero, List.set_cons_succ]
    refine wpAnyH_take (i := 13) (v := ?_) rfl (by kernel_rfl) (by kernel_rfl) (by kernel_rfl) (fun _ _ _ h => h) (Or.inl ⟨by rfl, ?_⟩) (by assumption) ?_
    rotate_left
    · intro w hSw
      obtain ⟨x2, x5, x6, x7⟩ := hSw
      go_simp
      try (with_reducible rfl)
    try simp only [Act.put, List.getElem_toArray, List.getElem_cons_succ, List.getElem_cons_zero, List.setIfInBounds_toArray, List.set_cons_zero, List.set_cons_succ]
    refine wpAnyH_take (i := 14) (v := ?_) rfl (by kernel_rfl) (by kernel_rfl) (by kernel_rfl) (fun _ _ _ h => h) (Or.inl ⟨by rfl, ?_⟩) (by assumption) ?_
    rotate_left
    · intro w hSw
      obtain ⟨x2, x5, x6, x7⟩ := hSw
      go_simp
      try (with_reducible rfl)
    try simp only [Act.put, List.getElem_toArray, List.getElem_cons_succ, List.getElem_cons_zero, List.setIfInBounds_toArray, List.set_cons_zero, List.set_cons_succ]
    refine wpAnyH_take (i := 15) (v := ?_) rfl (by kernel_rfl) (by kernel_rfl) (by kernel_rfl) (fun _ _ _ h => h) (Or.inl ⟨by rfl, ?_⟩) (by assumption) ?_
    rotate_left
    · intro w hSw
      obtain ⟨x2, x5, x6, x7⟩ := hSw
      go_simp
      try (with_reducible rfl)
    try simp only [Act.put, List.getElem_toArray, List.getElem_cons_succ, List.getElem_cons_zero, List.setIfInBounds_toArray, List.set_cons_zero, List.set_cons_succ]
    refine wpAnyH_take (i := 16) (v := ?_) rfl (by kernel_rfl) (by kernel_rfl) (by kernel_rfl) (fun _ _ _ h => h) (Or.inl ⟨by rfl, ?_⟩) (by assumption) ?_
    rotate_left
    · intro w hSw
      obtain ⟨x2, x5, x6, x7⟩ := hSw
      go_simp
      try (with_reducible rfl)
    try simp only [Act.put, List.getElem_toArray, List.getElem_cons_succ, List.getElem_cons_zero, List.setIfInBounds_toArray, List.set_cons_zero, List.set_cons_succ]
    refine wpAnyH_take (i := 17) (v := ?_) rfl (by kernel_rfl) (by kernel_rfl) (by kernel_rfl) (fun _ _ _ h => h) (Or.inl ⟨by rfl, ?_⟩) (by assumption) ?_
    rotate_left
    · intro w hSw
      obtain ⟨x2, x5, x6, x7⟩ := hSw
      go_simp
      try (with_reducible rfl)
    try simp only [Act.put, List.getElem_toArray, List.getElem_cons_succ, List.getElem_cons_zero, List.setIfInBounds_toArray, List.set_cons_zero, List.set_cons_succ]
    refine wpAnyH_ready (rs := [18]) (by kernel_rfl) (by simp) ?_
    refine AllReadyH.cons (o := _) rfl (fun K hK => ?_) ?_
    · have cc0 : u0.cell? ⟨g, k * 8 + 6, none⟩ = some (.slice P1 p.data.length pc1) := Ses.raw_cell HM0.out (HY.out) 6 _ rfl
      have f0 : u0.frozen? ⟨g, k * 8 + 6, none⟩ = false := (by obtain ⟨cs, hcs⟩ := HT0.out; exact blk_free hcs _)
      go_simp
      have b1_2 := (set_far (i := k * 8 + 6) (u := .slice OA ol oc) hgx).trans Hv2
      have b1_5 := (set_far (i := k * 8 + 6) (u := .slice OA ol oc) hgx).trans Hv5
      have b1_6 := (set_far (i := k * 8 + 6) (u := .slice OA ol oc) hgx).trans Hv6
      have b1_7 := (set_far (i := k * 8 + 6) (u := .slice OA ol oc) hgx).trans Hv7
      have HM1 := Lib.hid (Ses.raw_set (y' := ((⟨.int .u8 p.kind, rfl⟩, ⟨.int .u8 p.size, rfl⟩, ⟨.int .u64 p.num, rfl⟩, ⟨.bool p.big, rfl⟩, ⟨.bool p.comp, rfl⟩, ⟨.int .u8 p.flag, rfl⟩, ⟨.slice OA ol oc, rfl⟩, ⟨.slice P2 p.other.length pc2, rfl⟩) : Ses.V1 × Ses.V1 × Ses.V1 × Ses.V1 × Ses.V1 × Ses.V1 × Ses.V1 × Ses.V1)) HM0.out (HY.out) rfl (by decide) HT0.out (i := 6) (v := .slice OA ol oc))
      have HT1 : Hid (∃ cells, ((u0.setCell ⟨g, k * 8 + 6, none⟩ (.slice OA ol oc))).heap[g]? = some (.cells cells 70 (0, 0))) := Lib.hid (by obtain ⟨cs, hcs⟩ := HT0.out; exact ⟨_, xb_set hcs _ _⟩)
      have HY1 : Hid ((rs.set k ((⟨.int .u8 p.kind, rfl⟩, ⟨.int .u8 p.size, rfl⟩, ⟨.int .u64 p.num, rfl⟩, ⟨.bool p.big, rfl⟩, ⟨.bool p.comp, rfl⟩, ⟨.int .u8 p.flag, rfl⟩, ⟨.slice OA ol oc, rfl⟩, ⟨.slice P2 p.other.length pc2, rfl⟩) : Ses.V1 × Ses.V1 × Ses.V1 × Ses.V1 × Ses.V1 × Ses.V1 × Ses.V1 × Ses.V1))[k]? = some ((⟨.int .u8 p.kind, rfl⟩, ⟨.int .u8 p.size, rfl⟩, ⟨.int .u64 p.num, rfl⟩, ⟨.bool p.big, rfl⟩, ⟨.bool p.comp, rfl⟩, ⟨.int .u8 p.flag, rfl⟩, ⟨.slice OA ol oc, rfl⟩, ⟨.slice P2 p.other.length pc2, rfl⟩) : Ses.V1 × Ses.V1 × Ses.V1 × Ses.V1 × Ses.V1 × Ses.V1 × Ses.V1 × Ses.V1)) := Lib.hid (List.getElem?_set_self (by have := HRs1.out; omega))
      refine hK.out _ _ ⟨b1_2, b1_5, b1_6, b1_7⟩ (fun hHeld => ?_)
      clear hK K
      try simp only [Act.put, List.getElem_toArray, List.getElem_cons_succ, List.getElem_cons_zero, List.setIfInBounds_toArray, List.set_cons_zero, List.set_cons_succ]
      refine wpAnyH_take (i := 19) (v := ?_) rfl (by kernel_rfl) (by kernel_rfl) (by kernel_rfl) (fun _ _ _ h => h) (Or.inl ⟨by rfl, ?_⟩) (by assumption) ?_
      rotate_left
      · intro w hSw
        obtain ⟨x2, x5, x6, x7⟩ := hSw
        go_simp
        try (with_reducible rfl)
      try simp only [Act.put, List.getElem_toArray, List.getElem_cons_succ, List.getElem_cons_zero, List.setIfInBounds_toArray, List.set_cons_zero, List.set_cons_succ]
      refine wpAnyH_take (i := 20) (v := ?_) rfl (by kernel_rfl) (by kernel_rfl) (by kernel_rfl) (fun _ _ _ h => h) (Or.inl ⟨by rfl, ?_⟩) (by assumption) ?_
      rotate_left
      · intro w hSw
        obtain ⟨x2, x5, x6, x7⟩ := hSw
        go_simp
        try (with_reducible rfl)
      try simp only [Act.put, List.getElem_toArray, List.getElem_cons_succ, List.getElem_cons_zero, List.setIfInBounds_toArray, List.set_cons_zero, List.set_cons_succ]
      refine wpAnyH_ready (rs := [21]) (by kernel_rfl) (by simp) ?_
      refine AllReadyH.cons (o := _) rfl (fun K hK => ?_) ?_
      · have cc1 : (u0.setCell ⟨g, k * 8 + 6, none⟩ (.slice OA ol oc)).cell? ⟨g, k * 8 + 7, none⟩ = some (.slice P2 p.other.length pc2) := Ses.raw_cell HM1.out (HY1.out) 7 _ rfl
        have f1 : (u0.setCell ⟨g, k * 8 + 6, none⟩ (.slice OA ol oc)).frozen? ⟨g, k * 8 + 7, none⟩ = false := (by obtain ⟨cs, hcs⟩ := HT1.out; exact blk_free hcs _)
        go_simp
        have b2_2 := (set_far (i := k * 8 + 7) (u := .slice OB oo od) hgx).trans b1_2
        have b2_5 := (set_far (i := k * 8 + 7) (u := .slice OB oo od) hgx).trans b1_5
        have b2_6 := (set_far (i := k * 8 + 7) (u := .slice OB oo od) hgx).trans b1_6
        have b2_7 := (set_far (i := k * 8 + 7) (u := .slice OB oo od) hgx).trans b1_7
        have HM2 := Lib.hid (Ses.raw_set (y' := ((⟨.int .u8 p.kind, rfl⟩, ⟨.int .u8 p.size, rfl⟩, ⟨.int .u64 p.num, rfl⟩, ⟨.bool p.big, rfl⟩, ⟨.bool p.comp, rfl⟩, ⟨.int .u8 p.flag, rfl⟩, ⟨.slice OA ol oc, rfl⟩, ⟨.slice OB oo od, rfl⟩) : Ses.V1 × Ses.V1 × Ses.V1 × Ses.V1 × Ses.V1 × Ses.V1 × Ses.V1 × Ses.V1)) HM1.out (HY1.out) rfl (by decide) HT1.out (i := 7) (v := .slice OB oo od))
        have HT2 : Hid (∃ cells, (((u0.setCell ⟨g, k * 8 + 6, none⟩ (.slice OA ol oc)).setCell ⟨g, k * 8 + 7, none⟩ (.slice OB oo od))).heap[g]? = some (.cells cells 70 (0, 0))) := Lib.hid (by obtain ⟨cs, hcs⟩ := HT1.out; exact ⟨_, xb_set hcs _ _⟩)
        rw [List.set_set] at HM2
        have HY2 : Hid ((rs.set k ((⟨.int .u8 p.kind, rfl⟩, ⟨.int .u8 p.size, rfl⟩, ⟨.int .u64 p.num, rfl⟩, ⟨.bool p.big, rfl⟩, ⟨.bool p.comp, rfl⟩, ⟨.int .u8 p.flag, rfl⟩, ⟨.slice OA ol oc, rfl⟩, ⟨.slice OB oo od, rfl⟩) : Ses.V1 × Ses.V1 × Ses.V1 × Ses.V1 × Ses.V1 × Ses.V1 × Ses.V1 × Ses.V1))[k]? = some ((⟨.int .u8 p.kind, rfl⟩, ⟨.int .u8 p.size, rfl⟩, ⟨.int .u64 p.num, rfl⟩, ⟨.bool p.big, rfl⟩, ⟨.bool p.comp, rfl⟩, ⟨.int .u8 p.flag, rfl⟩, ⟨.slice OA ol oc, rfl⟩, ⟨.slice OB oo od, rfl⟩) : Ses.V1 × Ses.V1 × Ses.V1 × Ses.V1 × Ses.V1 × Ses.V1 × Ses.V1 × Ses.V1)) := Lib.hid (List.getElem?_set_self (by have := HRs1.out; omega))
        refine hK.out _ _ ⟨b2_2, b2_5, b2_6, b2_7⟩ (fun hHeld => ?_)
        clear hK K
        try simp only [Act.put, List.getElem_toArray, List.getElem_cons_succ, List.getElem_cons_zero, List.setIfInBounds_toArray, List.set_cons_zero, List.set_cons_succ]
        refine wpAnyH_take (i := 22) (v := ?_) rfl (by kernel_rfl) (by kernel_rfl) (by kernel_rfl) (fun _ _ _ h => h) (Or.inl ⟨by rfl, ?_⟩) (by assumption) ?_
        rotate_left
        · intro w hSw
          obtain ⟨x2, x5, x6, x7⟩ := hSw
          go_simp
          try (with_reducible rfl)
        try simp only [Act.put, List.getElem_toArray, List.getElem_cons_succ, List.getElem_cons_zero, List.setIfInBounds_toArray, List.set_cons_zero, List.set_cons_succ]
        refine wpAnyH_take (i := 23) (v := ?_) rfl (by kernel_rfl) (by kernel_rfl) (by kernel_rfl) (fun _ _ _ h => h) (Or.inl ⟨by rfl, ?_⟩) (by assumption) ?_
        rotate_left
        · intro w hSw
          obtain ⟨x2, x5, x6, x7⟩ := hSw
          go_simp
          try (with_reducible rfl)
        try simp only [Act.put, List.getElem_toArray, List.getElem_cons_succ, List.getElem_cons_zero, List.setIfInBounds_toArray, List.set_cons_zero, List.set_cons_succ]
        refine wpAnyH_ready (rs := [24]) (by kernel_rfl) (by simp) ?_
        refine AllReadyH.cons (o := _) rfl (fun K hK => ?_) ?_
        · have cc2 : ((u0.setCell ⟨g, k * 8 + 6, none⟩ (.slice OA ol oc)).setCell ⟨g, k * 8 + 7, none⟩ (.slice OB oo od)).cell? ⟨g, k * 8 + 2, none⟩ = some (.int .u64 p.num) := Ses.raw_cell HM2.out (HY2.out) 2 _ rfl
          have f2 : ((u0.setCell ⟨g, k * 8 + 6, none⟩ (.slice OA ol oc)).setCell ⟨g, k * 8 + 7, none⟩ (.slice OB oo od)).frozen? ⟨g, k * 8 + 2, none⟩ = false := (by obtain ⟨cs, hcs⟩ := HT2.out; exact blk_free hcs _)
          go_simp
          have b3_2 := (set_far (i := k * 8 + 2) (u := .int .u64 on) hgx).trans b2_2
          have b3_5 := (set_far (i := k * 8 + 2) (u := .int .u64 on) hgx).trans b2_5
          have b3_6 := (set_far (i := k * 8 + 2) (u := .int .u64 on) hgx).trans b2_6
          have b3_7 := (set_far (i := k * 8 + 2) (u := .int .u64 on) hgx).trans b2_7
          have HM3 := Lib.hid (Ses.raw_set (y' := ((⟨.int .u8 p.kind, rfl⟩, ⟨.int .u8 p.size, rfl⟩, ⟨.int .u64 on, rfl⟩, ⟨.bool p.big, rfl⟩, ⟨.bool p.comp, rfl⟩, ⟨.int .u8 p.flag, rfl⟩, ⟨.slice OA ol oc, rfl⟩, ⟨.slice OB oo od, rfl⟩) : Ses.V1 × Ses.V1 × Ses.V1 × Ses.V1 × Ses.V1 × Ses.V1 × Ses.V1 × Ses.V1)) HM2.out (HY2.out) rfl (by decide) HT2.out (i := 2) (v := .int .u64 on))
          have HT3 : Hid (∃ cells, ((((u0.setCell ⟨g, k * 8 + 6, none⟩ (.slice OA ol oc)).setCell ⟨g, k * 8 + 7, none⟩ (.slice OB oo od)).setCell ⟨g, k * 8 + 2, none⟩ (.int .u64 on))).heap[g]? = some (.cells cells 70 (0, 0))) := Lib.hid (by obtain ⟨cs, hcs⟩ := HT2.out; exact ⟨_, xb_set hcs _ _⟩)
          rw [List.set_set] at HM3
          have HY3 : Hid ((rs.set k ((⟨.int .u8 p.kind, rfl⟩, ⟨.int .u8 p.size, rfl⟩, ⟨.int .u64 on, rfl⟩, ⟨.bool p.big, rfl⟩, ⟨.bool p.comp, rfl⟩, ⟨.int .u8 p.flag, rfl⟩, ⟨.slice OA ol oc, rfl⟩, ⟨.slice OB oo od, rfl⟩) : Ses.V1 × Ses.V1 × Ses.V1 × Ses.V1 × Ses.V1 × Ses.V1 × Ses.V1 × Ses.V1))[k]? = some ((⟨.int .u8 p.kind, rfl⟩, ⟨.int .u8 p.size, rfl⟩, ⟨.int .u64 on, rfl⟩, ⟨.bool p.big, rfl⟩, ⟨.bool p.comp, rfl⟩, ⟨.int .u8 p.flag, rfl⟩, ⟨.slice OA ol oc, rfl⟩, ⟨.slice OB oo od, rfl⟩) : Ses.V1 × Ses.V1 × Ses.V1 × Ses.V1 × Ses.V1 × Ses.V1 × Ses.V1 × Ses.V1)) := Lib.hid (List.getElem?_set_self (by have := HRs1.out; omega))
          refine hK.out _ _ ⟨b3_2, b3_5, b3_6, b3_7⟩ (fun hHeld => ?_)
          clear hK K
          try simp only [Act.put, List.getElem_toArray, List.getElem_cons_succ, List.getElem_cons_zero, List.setIfInBounds_toArray, List.set_cons_zero, List.set_cons_succ]
          refine wpAnyH_take (i := 25) (v := ?_) rfl (by kernel_rfl) (by kernel_rfl) (by kernel_rfl) (fun _ _ _ h => h) (Or.inl ⟨by rfl, ?_⟩) (by assumption) ?_
          rotate_left
          · intro w hSw
            obtain ⟨x2, x5, x6, x7⟩ := hSw
            go_simp
            try (with_reducible rfl)
          try simp only [Act.put, List.getElem_toArray, List.getElem_cons_succ, List.getElem_cons_zero, List.setIfInBounds_toArray, List.set_cons_zero, List.set_cons_succ]
          refine wpAnyH_take (i := 26) (v := ?_) rfl (by kernel_rfl) (by kernel_rfl) (by kernel_rfl) (fun _ _ _ h => h) (Or.inl ⟨by rfl, ?_⟩) (by assumption) ?_
          rotate_left
          · intro w hSw
            obtain ⟨x2, x5, x6, x7⟩ := hSw
            go_simp
            try (with_reducible rfl)
          try simp only [Act.put, List.getElem_toArray, List.getElem_cons_succ, List.getElem_cons_zero, List.setIfInBounds_toArray, List.set_cons_zero, List.set_cons_succ]
          refine wpAnyH_ready (rs := [27]) (by kernel_rfl) (by simp) ?_
          refine AllReadyH.cons (o := _) rfl (fun K hK => ?_) ?_
          · have cc3 : (((u0.setCell ⟨g, k * 8 + 6, none⟩ (.slice OA ol oc)).setCell ⟨g, k * 8 + 7, none⟩ (.slice OB oo od)).setCell ⟨g, k * 8 + 2, none⟩ (.int .u64 on)).cell? ⟨g, k * 8 + 5, none⟩ = some (.int .u8 p.flag) := Ses.raw_cell HM3.out (HY3.out) 5 _ rfl
            have f3 : (((u0.setCell ⟨g, k * 8 + 6, none⟩ (.slice OA ol oc)).setCell ⟨g, k * 8 + 7, none⟩ (.slice OB oo od)).setCell ⟨g, k * 8 + 2, none⟩ (.int .u64 on)).frozen? ⟨g, k * 8 + 5, none⟩ = false := (by obtain ⟨cs, hcs⟩ := HT3.out; exact blk_free hcs _)
            go_simp
            have b4_2 := (set_far (i := k * 8 + 5) (u := .int .u8 ofl) hgx).trans b3_2
            have b4_5 := (set_far (i := k * 8 + 5) (u := .int .u8 ofl) hgx).trans b3_5
            have b4_6 := (set_far (i := k * 8 + 5) (u := .int .u8 ofl) hgx).trans b3_6
            have b4_7 := (set_far (i := k * 8 + 5) (u := .int .u8 ofl) hgx).trans b3_7
            have HM4 := Lib.hid (Ses.raw_set (y' := ((⟨.int .u8 p.kind, rfl⟩, ⟨.int .u8 p.size, rfl⟩, ⟨.int .u64 on, rfl⟩, ⟨.bool p.big, rfl⟩, ⟨.bool p.comp, rfl⟩, ⟨.int .u8 ofl, rfl⟩, ⟨.slice OA ol oc, rfl⟩, ⟨.slice OB oo od, rfl⟩) : Ses.V1 × Ses.V1 × Ses.V1 × Ses.V1 × Ses.V1 × Ses.V1 × Ses.V1 × Ses.V1)) HM3.out (HY3.out) rfl (by decide) HT3.out (i := 5) (v := .int .u8 ofl))
            have HT4 : Hid (∃ cells, (((((u0.setCell ⟨g, k * 8 + 6, none⟩ (.slice OA ol oc)).setCell ⟨g, k * 8 + 7, none⟩ (.slice OB oo od)).setCell ⟨g, k * 8 + 2, none⟩ (.int .u64 on)).setCell ⟨g, k * 8 + 5, none⟩ (.int .u8 ofl))).heap[g]? = some (.cells cells 70 (0, 0))) := Lib.hid (by obtain ⟨cs, hcs⟩ := HT3.out; exact ⟨_, xb_set hcs _ _⟩)
            rw [List.set_set] at HM4
            have HY4 : Hid ((rs.set k ((⟨.int .u8 p.kind, rfl⟩, ⟨.int .u8 p.size, rfl⟩, ⟨.int .u64 on, rfl⟩, ⟨.bool p.big, rfl⟩, ⟨.bool p.comp, rfl⟩, ⟨.int .u8 ofl, rfl⟩, ⟨.slice OA ol oc, rfl⟩, ⟨.slice OB oo od, rfl⟩) : Ses.V1 × Ses.V1 × Ses.V1 × Ses.V1 × Ses.V1 × Ses.V1 × Ses.V1 × Ses.V1))[k]? = some ((⟨.int .u8 p.kind, rfl⟩, ⟨.int .u8 p.size, rfl⟩, ⟨.int .u64 on, rfl⟩, ⟨.bool p.big, rfl⟩, ⟨.bool p.comp, rfl⟩, ⟨.int .u8 ofl, rfl⟩, ⟨.slice OA ol oc, rfl⟩, ⟨.slice OB oo od, rfl⟩) : Ses.V1 × Ses.V1 × Ses.V1 × Ses.V1 × Ses.V1 × Ses.V1 × Ses.V1 × Ses.V1)) := Lib.hid (List.getElem?_set_self (by have := HRs1.out; omega))
            refine hK.out _ _ ⟨b4_2, b4_5, b4_6, b4_7⟩ (fun hHeld => ?_)
            clear hK K
            try simp only [Act.put, List.getElem_toArray, List.getElem_cons_succ, List.getElem_cons_zero, List.setIfInBounds_toArray, List.set_cons_zero, List.set_cons_succ]
            refine wpAnyH_done (by kernel_rfl) ?_ _
            refine NoPanic.normal ?_
            have HBW : Hid (Below w4.heap.size w4 ((((u0.setCell ⟨g, k * 8 + 6, none⟩ (.slice OA ol oc)).setCell ⟨g, k * 8 + 7, none⟩ (.slice OB oo od)).setCell ⟨g, k * 8 + 2, none⟩ (.int .u64 on)).setCell ⟨g, k * 8 + 5, none⟩ (.int .u8 ofl))) := Lib.hid ((((HB64.out.setCell hg1 _).setCell hg1 _).setCell hg1 _).setCell hg1 _)
            have HMs := HM4
            have HGood : Hid (∀ (j : Nat) yy pp, (rs.set k ((⟨.int .u8 p.kind, rfl⟩, ⟨.int .u8 p.size, rfl⟩, ⟨.int .u64 on, rfl⟩, ⟨.bool p.big, rfl⟩, ⟨.bool p.comp, rfl⟩, ⟨.int .u8 ofl, rfl⟩, ⟨.slice OA ol oc, rfl⟩, ⟨.slice OB oo od, rfl⟩) : Ses.V1 × Ses.V1 × Ses.V1 × Ses.V1 × Ses.V1 × Ses.V1 × Ses.V1 × Ses.V1))[j]? = some yy → (ps.set k (Ses.put p o))[j]? = some pp → Ses.GoodP w4 yy pp) := Lib.hid (fun j yy pp h1 h2 => by
              have hkl : k < rs.length := by have := HRs1.out; omega
              have hkp : k < ps.length := by have := HN.out; omega
              by_cases hj : j = k
              · subst hj
                rw [List.getElem?_set_self hkl] at h1
                rw [List.getElem?_set_self hkp] at h2
                obtain rfl := Option.some.inj h1
                obtain rfl := Option.some.inj h2
                refine ⟨OA, oc, OB, od, ?_, ?_, ?_, ?_, ?_⟩
                · show _ = ((⟨.int .u8 p.kind, rfl⟩, ⟨.int .u8 p.size, rfl⟩, ⟨.int .u64 o.num, rfl⟩, ⟨.bool p.big, rfl⟩, ⟨.bool p.comp, rfl⟩, ⟨.int .u8 o.flag, rfl⟩, ⟨.slice OA o.data.length oc, rfl⟩, ⟨.slice OB o.other.length od, rfl⟩) : Ses.V1 × Ses.V1 × Ses.V1 × Ses.V1 × Ses.V1 × Ses.V1 × Ses.V1 × Ses.V1)
                  simp only [HOn.out, HOf.out, HOl.out, HOo.out]
                · show o.data.length ≤ oc
                  rw [← HOl.out]; exact HL1.out
                · show o.other.length ≤ od
                  rw [← HOo.out]; exact HL2.out
                · show Kd.C (Kd.int .u8) w4 OA o.data.length o.data
                  rw [← HOl.out]; exact Kd.C_below HC1.out HB4w.out
                · show Kd.C (Kd.int .u8) w4 OB o.other.length o.other
                  rw [← HOo.out]; exact Kd.C_below HC2.out HB4w.out
              · rw [List.getElem?_set_ne (fun e => hj e.symm)] at h1 h2
                exact HRs3.out j yy pp h1 h2)
            have HCm : Hid (Ses.spKd.C ((((u0.setCell ⟨g, k * 8 + 6, none⟩ (.slice OA ol oc)).setCell ⟨g, k * 8 + 7, none⟩ (.slice OB oo od)).setCell ⟨g, k * 8 + 2, none⟩ (.int .u64 on)).setCell ⟨g, k * 8 + 5, none⟩ (.int .u8 ofl)) (some ⟨g, 0, none⟩) n (ps.set k (Ses.put p o))) := Lib.hid (by
              have h := Ses.raw_sp (B := some ⟨g, 0, none⟩) (ps := ps.set k (Ses.put p o)) (rs := rs.set k ((⟨.int .u8 p.kind, rfl⟩, ⟨.int .u8 p.size, rfl⟩, ⟨.int .u64 on, rfl⟩, ⟨.bool p.big, rfl⟩, ⟨.bool p.comp, rfl⟩, ⟨.int .u8 ofl, rfl⟩, ⟨.slice OA ol oc, rfl⟩, ⟨.slice OB oo od, rfl⟩) : Ses.V1 × Ses.V1 × Ses.V1 × Ses.V1 × Ses.V1 × Ses.V1 × Ses.V1 × Ses.V1)) (by rw [List.length_set, List.length_set, HRs1.out, HN.out]) (by rw [List.length_set, ← HN.out]; exact HM4.out) HBW.out HGood.out
              rw [List.length_set, ← HN.out] at h
              exact h)
            have mk0 : ((((u0.setCell ⟨g, k * 8 + 6, none⟩ (.slice OA ol oc)).setCell ⟨g, k * 8 + 7, none⟩ (.slice OB oo od)).setCell ⟨g, k * 8 + 2, none⟩ (.int .u64 on)).setCell ⟨g, k * 8 + 5, none⟩ (.int .u8 ofl)).cell? ⟨g, k * 8, none⟩ = some (.int .u8 p.kind) := (by have h := Ses.raw_cell HM4.out HY4.out 0 _ rfl; rw [Nat.add_zero] at h; exact h)
            have mk6 : ((((u0.setCell ⟨g, k * 8 + 6, none⟩ (.slice OA ol oc)).setCell ⟨g, k * 8 + 7, none⟩ (.slice OB oo od)).setCell ⟨g, k * 8 + 2, none⟩ (.int .u64 on)).setCell ⟨g, k * 8 + 5, none⟩ (.int .u8 ofl)).cell? ⟨g, k * 8 + 6, none⟩ = some (.slice OA ol oc) := Ses.raw_cell HM4.out HY4.out 6 _ rfl
            clear cc0 cc1 cc2 cc3 f0 f1 f2 f3 b1_2 b1_5 b1_6 b1_7 b2_2 b2_5 b2_6 b2_7 b3_2 b3_5 b3_6 b3_7 b4_2 b4_5 b4_6 b4_7 hHeld HM0 HM1 HM2 HM3 HM4 HT0 HT1 HT2 HT3 HT4 HY1 HY2 HY3 HY4 HMs HGood
            have HB7 : Hid (Below w.heap.size w ((((u0.setCell ⟨g, k * 8 + 6, none⟩ (.slice OA ol oc)).setCell ⟨g, k * 8 + 7, none⟩ (.slice OB oo od)).setCell ⟨g, k * 8 + 2, none⟩ (.int .u64 on)).setCell ⟨g, k * 8 + 5, none⟩ (.int .u8 ofl))) := Lib.hid (HB4w.out.trans (HBW.out.mono HB4w.out.size))
            generalize ((((u0.setCell ⟨g, k * 8 + 6, none⟩ (.slice OA ol oc)).setCell ⟨g, k * 8 + 7, none⟩ (.slice OB oo od)).setCell ⟨g, k * 8 + 2, none⟩ (.int .u64 on)).setCell ⟨g, k * 8 + 5, none⟩ (.int .u8 ofl)) = w7 at *
            obtain ⟨hkp, hpe⟩ := List.getElem?_eq_some_iff.1 HP.out
            obtain ⟨ga, oa, ea, -, hel⟩ := Kd.C_head HR.out (by decide) (by have := HN.out; omega)
            obtain rfl := Option.some.inj ea
            obtain ⟨cl, -, hK, hcell⟩ := hel k p HP.out
            obtain ⟨X1, xc1, X2, xc2, rfl, -, -, -, -⟩ := Ses.sp_open hK
            have lk6 : w7.cell? ⟨ga, oa + k * 8 + 6, none⟩ = some (.slice X1 p.data.length xc1) := bl_cell HB7.out (hcell 6 _ rfl)
            have HWp := HWf.out p (List.mem_of_getElem? HP.out)
            have hpk := Ses.lit8 HWp.1
            obtain ⟨pk0, pk1⟩ := hpk
            have H20 := Lib.hid (HB2'.out (by simp))
            have HLo : Hid (Ses.Long o = false) := Lib.hid (HB4'.out (by simp))
            have HSpo : Hid (Ses.SPok o) := Lib.hid (Ses.spok HOw.out HLo.out)
            have HSps : Hid (∀ x ∈ ps, Ses.SPok x) := Lib.hid (fun x hx => Ses.spok (HWf.out x hx) (H20.out.2 x hx))
            have HSpm : Hid (∀ x ∈ ps.set k (Ses.put p o), Ses.SPok x) := Lib.hid (Ses.set_all HSps.out (Ses.spok_put (HSps.out p (List.mem_of_getElem? HP.out)) HSpo.out))
            have HWm : Hid (∀ x ∈ ps.set k (Ses.put p o), x.wf) := Lib.hid (Ses.set_all HWf.out (Ses.wf_put HWp HOw.out))
            clear hel hK hcell hkp hpe HWp
            obtain ⟨pl, hpl⟩ : ∃ x, x = p.data.length := ⟨_, rfl⟩
            obtain ⟨pk, hpk'⟩ : ∃ x, x = p.kind := ⟨_, rfl⟩
            rw [← hpl] at lk6
            rw [← hpk'] at mk0 pk0 pk1
            clear hpl hpk'
            obtain ⟨ms, hms⟩ : ∃ x, x = ps.set k (Ses.put p o) := ⟨_, rfl⟩
            rw [← hms] at HCm HSpm HWm
            have hml : ms.length = n := by rw [hms, List.length_set, ← HN.out]
            have HMl := Lib.hid hml
            have hn20 : n ≤ 20 := H20.out.1
            have HFl : ∀ x : Ses.SP, x.wf → 0 ≤ x.flag ∧ x.flag ≤ 255 := fun x hx => Ses.lit8 hx.2.2.2.1
            have HOkl : Hid (∀ x ∈ ps.map Ses.conv, Ses.OkP x) := Lib.hid (fun x hx => by
              obtain ⟨z, hz, rfl⟩ := List.mem_map.1 hx
              exact Ses.okp_conv (HSps.out z hz) (HFl z (HWf.out z hz)))
            have HOkm : Hid (∀ x ∈ ms.map Ses.conv, Ses.OkP x) := Lib.hid (fun x hx => by
              obtain ⟨z, hz, rfl⟩ := List.mem_map.1 hx
              exact Ses.okp_conv (HSpm.out z hz) (HFl z (HWm.out z hz)))
            have HPu1 : Hid (∀ W : World, Below w.heap.size w W → Calls Tryd.prog 26 #[.slice (some ⟨ga, oa, none⟩) n c0] W fun e w' => ∃ v, e = .returned v ∧ Ses.psKd.R 29 w' W.heap.size (fun _ => True) v (ps.map Ses.conv) ∧ Below W.heap.size W w') := Lib.hid (fun W hW => by
              have h := sessionPuts_ok ps (some ⟨ga, oa, none⟩) c0 W (Kd.C_below HR.out hW) HSps.out (by rw [← HN.out]; exact hn20)
              rw [← HN.out] at h
              exact h)
            have HPu2 : Hid (∀ W : World, Below w7.heap.size w7 W → Calls Tryd.prog 26 #[.slice (some ⟨g, 0, none⟩) n c] W fun e w' => ∃ v, e = .returned v ∧ Ses.psKd.R 29 w' W.heap.size (fun _ => True) v (ms.map Ses.conv) ∧ Below W.heap.size W w') := Lib.hid (fun W hW => by
              have h := sessionPuts_ok ms (some ⟨g, 0, none⟩) c W (by rw [HMl.out]; exact Kd.C_below HCm.out hW) HSpm.out (by rw [HMl.out]; exact hn20)
              rw [HMl.out] at h
              exact h)
            have HIm : Hid (∀ (qs : List Ses.PS) (W : World) (A : Option Addr) (d : Nat), qs.length = n → (∀ x ∈ qs, Ses.OkP x) → Ses.psKd.C W A n qs → n ≤ d → Calls Tryd.prog 16 #[.slice A n d, .bool big, .int .i64 64] W fun e w' => ∃ v, e = .returned v ∧ Kd.R (Kd.int .u8) 5 w' W.heap.size (fun _ => True) v (qs.flatMap (Ses.stepB big 64)) ∧ Below W.heap.size W w') := Lib.hid (fun qs W A d hl hok hC hd => by
              have h := sessionPut_any qs A d big 64 W (by rw [hl]; exact hC) (by rw [hl]; exact hd) hok (by rw [hl]; omega) (by decide) (by decide)
              rw [hl] at h
              exact h)
            have HGo1 : Hid (∀ W : World, Below w.heap.size w W → Calls Tryd.prog 31 #[.slice (some ⟨ga, oa, none⟩) n c0] W fun e w' => ∃ B d, e = .returned (.slice B n d) ∧ Ses.gtKd.C w' B n (ps.map Ses.gotOf) ∧ Below W.heap.size W w') := Lib.hid (fun W hW => by
              have h := sessionGot_ok ps (some ⟨ga, oa, none⟩) c0 W (Kd.C_below HR.out hW) (fun x hx => ⟨HSps.out x hx, HFl x (HWf.out x hx)⟩) (by rw [← HN.out]; exact hn20)
              rw [← HN.out] at h
              exact h)
            have HGo2 : Hid (∀ W : World, Below w7.heap.size w7 W → Calls Tryd.prog 31 #[.slice (some ⟨g, 0, none⟩) n c] W fun e w' => ∃ B d, e = .returned (.slice B n d) ∧ Ses.gtKd.C w' B n (ms.map Ses.gotOf) ∧ Below W.heap.size W w') := Lib.hid (fun W hW => by
              have h := sessionGot_ok ms (some ⟨g, 0, none⟩) c W (by rw [HMl.out]; exact Kd.C_below HCm.out hW) (fun x hx => ⟨HSpm.out x hx, HFl x (HWm.out x hx)⟩) (by rw [HMl.out]; exact hn20)
              rw [HMl.out] at h
              exact h)
            obtain ⟨q, hq⟩ : ∃ q, q = decide ((ps.map Ses.conv).flatMap (Ses.stepB big 64) = (ms.map Ses.conv).flatMap (Ses.stepB big 64)) := ⟨_, rfl⟩
            have HTells := Lib.hid (Ses.got_tells (big := big) (q := q) HP.out (HSps.out p (List.mem_of_getElem? HP.out)) ⟨HSpo.out.n0, HSpo.out.n1⟩ (Ses.okp_conv (HSps.out p (List.mem_of_getElem? HP.out)) (HFl p (HWf.out p (List.mem_of_getElem? HP.out)))) (Ses.okp_conv (Ses.spok_put (HSps.out p (List.mem_of_getElem? HP.out)) HSpo.out) (HFl _ (Ses.wf_put (HWf.out p (List.mem_of_getElem? HP.out)) HOw.out))) (by rw [hq, hms]))
            rw [← hms] at HTells
            have HEqF : Hid (∀ (W : World) (A B : Option Addr) (d1 d2 : Nat), Ses.gtKd.C W A n (ps.map Ses.gotOf) → Ses.gtKd.C W B n (ms.map Ses.gotOf) → Calls Tryd.prog 29 #[.slice A n d1, .slice B n d2, .func (.func 30) #[] #[]] W fun e w' => e = .returned (.bool q) ∧ Below W.heap.size W w') := Lib.hid (fun W A B d1 d2 h1 h2 => equalFunc_ok (ps.map Ses.gotOf) (ms.map Ses.gotOf) A B d1 d2 n q W (by rw [List.length_map, ← HN.out]; exact h1) (by rw [List.length_map, HMl.out]; exact h2) (by rw [List.length_map, ← HN.out]) (by rw [List.length_map, HMl.out]) (fun x hx => by
                obtain ⟨z, hz, rfl⟩ := List.mem_map.1 hx
                exact Ses.gotOf_ok (HWf.out z hz)) (fun x hx => by
                obtain ⟨z, hz, rfl⟩ := List.mem_map.1 hx
                exact Ses.gotOf_ok (HWm.out z hz)) HTells.out.1 HTells.out.2)
            have hef : bytes_Equal.f ((ps.map Ses.conv).flatMap (Ses.stepB big 64)) ((ms.map Ses.conv).flatMap (Ses.stepB big 64)) = some q := by
              rw [hq]
              exact Ses.eq_f (Ses.msg_byt big HWf.out) (Ses.msg_byt big HWm.out)
            have HEf := Lib.hid hef
            have HNl : Hid ((ps.map Ses.conv).length = n) := Lib.hid (by rw [List.length_map, ← HN.out])
            have HNm : Hid ((ms.map Ses.conv).length = n) := Lib.hid (by rw [List.length_map, HMl.out])
            obtain ⟨el, hel⟩ : ∃ x, x = (ps.map Ses.conv).flatMap (Ses.stepB big 64) := ⟨_, rfl⟩
            obtain ⟨em, hem⟩ : ∃ x, x = (ms.map Ses.conv).flatMap (Ses.stepB big 64) := ⟨_, rfl⟩
            have HEl := Lib.hid hel
            have HEm := Lib.hid hem
            have HEq : Hid (∀ (W : World) (A B : Option Addr) (d1 d2 : Nat), Kd.C (Kd.int .u8) W A el.length el → el.length ≤ d1 → Kd.C (Kd.int .u8) W B em.length em → em.length ≤ d2 → Calls Tryd.prog 19 #[.slice A el.length d1, .slice B em.length d2] W fun e w' => e = .returned (.bool q) ∧ Below W.heap.size W w') := Lib.hid (fun W A B d1 d2 h1 h2 h3 h4 => by
              refine (bytes_Equal.calls A d1 el B d2 em q W h1 h2 h3 h4 (by rw [hel, hem]; exact hef)).mono ?_
              rintro e w' ⟨rfl, z, rfl⟩
              exact ⟨rfl, bl_drewN _ _⟩)
            clear hq hef hel hem hms hml HFl HTells
            have hqq : (q == q) = true := by cases q <;> rfl
            by_cases hk6 : pk % 6 = 0
            · have t6 : decide (pk % 6 = 0) = true := decide_eq_true hk6
              have t6b : (pk % 6 == 0) = true := beq_iff_eq.2 hk6
              by_cases hln : ol = pl
              · have HLn := Lib.hid hln
                subst hln
                go_wp2
                go_quiet (skip)
                go_simp
                go_wp2_with (first
                  | (go_at_call 26; (with_reducible refine (HPu1.out _ (HB7.out.trans ((bl_drewN w7 _).mono HB7.out.size))).mono ?_); rintro e w8 ⟨v8, rfl, hR8, hb8⟩; obtain ⟨A8, c8, e8, hle8, hC8⟩ := Kd.R_reads hR8; rw [HNl.out] at e8 hle8 hC8; subst e8; have HC8 := Lib.hid hC8; have HB8 : Hid (Below w7.heap.size w7 w8) := Lib.hid (bl_trans (bl_drewN w7 _) hb8); clear hR8 hC8 hb8 HPu1)
                  | (go_at_call 16; (with_reducible refine (HIm.out _ _ _ _ HNl.out HOkl.out HC8.out hle8).mono ?_); rintro e w9 ⟨v9, rfl, hR9, hb9⟩; rw [← HEl.out] at hR9; obtain ⟨A9, c9, rfl, hle9, hC9⟩ := Kd.R_reads hR9; have HC9 := Lib.hid hC9; have HB9 : Hid (Below w7.heap.size w7 w9) := Lib.hid (bl_trans HB8.out hb9); clear hR9 hC9 hb9 HC8)
                  | (go_at_call 26; (with_reducible refine (HPu2.out _ HB9.out).mono ?_); rintro e w10 ⟨v10, rfl, hR10, hb10⟩; obtain ⟨A10, c10, e10, hle10, hC10⟩ := Kd.R_reads hR10; rw [HNm.out] at e10 hle10 hC10; subst e10; have HC10 := Lib.hid hC10; have HC9b := Lib.hid (Kd.C_below HC9.out hb10); have HB10 : Hid (Below w7.heap.size w7 w10) := Lib.hid (bl_trans HB9.out hb10); clear hR10 hC10 hb10 HC9)
                  | (go_at_call 16; (with_reducible refine (HIm.out _ _ _ _ HNm.out HOkm.out HC10.out hle10).mono ?_); rintro e w11 ⟨v11, rfl, hR11, hb11⟩; rw [← HEm.out] at hR11; obtain ⟨A11, c11, rfl, hle11, hC11⟩ := Kd.R_reads hR11; have HC11 := Lib.hid hC11; have HC9c := Lib.hid (Kd.C_below HC9b.out hb11); have HB11 : Hid (Below w7.heap.size w7 w11) := Lib.hid (bl_trans HB10.out hb11); clear hR11 hC11 hb11 HC10 HC9b)
                  | (go_at_call 19; (with_reducible refine (HEq.out _ _ _ _ _ HC9c.out hle9 HC11.out hle11).mono ?_); rintro e w12 ⟨rfl, hb12⟩; have HB12 : Hid (Below w7.heap.size w7 w12) := Lib.hid (bl_trans HB11.out hb12); clear hb12)
                  | (go_at_call 31; (with_reducible refine (HGo1.out _ (HB7.out.trans (HB12.out.mono HB7.out.size))).mono ?_); rintro e w13 ⟨A13, c13, rfl, hC13, hb13⟩; have HC13 := Lib.hid hC13; have HB13 : Hid (Below w7.heap.size w7 w13) := Lib.hid (bl_trans HB12.out hb13); clear hC13 hb13 HGo1)
                  | (go_at_call 31; (with_reducible refine (HGo2.out _ HB13.out).mono ?_); rintro e w14 ⟨A14, c14, rfl, hC14, hb14⟩; have HC14 := Lib.hid hC14; have HC13b := Lib.hid (Kd.C_below HC13.out hb14); have HB14 : Hid (Below w7.heap.size w7 w14) := Lib.hid (bl_trans HB13.out hb14); clear hC14 hb14 HC13)
                  | (go_at_call 29; (with_reducible refine (HEqF.out _ _ _ _ _ HC13b.out HC14.out).mono ?_); rintro e w15 ⟨rfl, hb15⟩; have HB15 : Hid (Below w7.heap.size w7 w15) := Lib.hid (bl_trans HB14.out hb15); clear hb15)
                  | (go_at_call 14; (with_reducible refine (sessionLive_calls _).mono ?_); rintro e w19 ⟨rfl, hb19⟩; have HB19 := Lib.hid hb19; clear hb19))
                go_ret
                exact ⟨by first | rfl | (cases q <;> rfl), HB7.out.trans ((HB15.out.trans (HB19.out.mono HB15.out.size)).mono HB7.out.size)⟩
              · have t7 : decide (ol = pl) = false := decide_eq_false hln
                have t8 : ((ol : Int) == (pl : Int)) = false := beq_eq_false_iff_ne.2 (by omega)
                have t9 : ((ol : Int) != (pl : Int)) = true := bne_iff_ne.2 (by omega)
                have t10 : (ol == pl) = false := beq_eq_false_iff_ne.2 hln
                go_wp2
                go_quiet (skip)
                go_simp
                go_wp2_with (go_at_call 14; (with_reducible refine (sessionLive_calls _).mono ?_); rintro e w9 ⟨rfl, hb9⟩; have HB9 := Lib.hid hb9; clear hb9)
                go_ret
                exact ⟨rfl, HB7.out.trans (((bl_drewN w7 _).trans (HB9.out.mono (bl_drewN w7 _).size)).mono HB7.out.size)⟩
            · have t6 : decide (pk % 6 = 0) = false := decide_eq_false hk6
              have t6b : (pk % 6 == 0) = false := beq_eq_false_iff_ne.2 hk6
              go_wp2
              go_quiet (skip)
              go_simp
              go_wp2_with (first
                | (go_at_call 26; (with_reducible refine (HPu1.out _ (HB7.out.trans ((bl_drewN w7 _).mono HB7.out.size))).mono ?_); rintro e w8 ⟨v8, rfl, hR8, hb8⟩; obtain ⟨A8, c8, e8, hle8, hC8⟩ := Kd.R_reads hR8; rw [HNl.out] at e8 hle8 hC8; subst e8; have HC8 := Lib.hid hC8; have HB8 : Hid (Below w7.heap.size w7 w8) := Lib.hid (bl_trans (bl_drewN w7 _) hb8); clear hR8 hC8 hb8 HPu1)
                | (go_at_call 16; (with_reducible refine (HIm.out _ _ _ _ HNl.out HOkl.out HC8.out hle8).mono ?_); rintro e w9 ⟨v9, rfl, hR9, hb9⟩; rw [← HEl.out] at hR9; obtain ⟨A9, c9, rfl, hle9, hC9⟩ := Kd.R_reads hR9; have HC9 := Lib.hid hC9; have HB9 : Hid (Below w7.heap.size w7 w9) := Lib.hid (bl_trans HB8.out hb9); clear hR9 hC9 hb9 HC8)
                | (go_at_call 26; (with_reducible refine (HPu2.out _ HB9.out).mono ?_); rintro e w10 ⟨v10, rfl, hR10, hb10⟩; obtain ⟨A10, c10, e10, hle10, hC10⟩ := Kd.R_reads hR10; rw [HNm.out] at e10 hle10 hC10; subst e10; have HC10 := Lib.hid hC10; have HC9b := Lib.hid (Kd.C_below HC9.out hb10); have HB10 : Hid (Below w7.heap.size w7 w10) := Lib.hid (bl_trans HB9.out hb10); clear hR10 hC10 hb10 HC9)
                | (go_at_call 16; (with_reducible refine (HIm.out _ _ _ _ HNm.out HOkm.out HC10.out hle10).mono ?_); rintro e w11 ⟨v11, rfl, hR11, hb11⟩; rw [← HEm.out] at hR11; obtain ⟨A11, c11, rfl, hle11, hC11⟩ := Kd.R_reads hR11; have HC11 := Lib.hid hC11; have HC9c := Lib.hid (Kd.C_below HC9b.out hb11); have HB11 : Hid (Below w7.heap.size w7 w11) := Lib.hid (bl_trans HB10.out hb11); clear hR11 hC11 hb11 HC10 HC9b)
                | (go_at_call 19; (with_reducible refine (HEq.out _ _ _ _ _ HC9c.out hle9 HC11.out hle11).mono ?_); rintro e w12 ⟨rfl, hb12⟩; have HB12 : Hid (Below w7.heap.size w7 w12) := Lib.hid (bl_trans HB11.out hb12); clear hb12)
                | (go_at_call 31; (with_reducible refine (HGo1.out _ (HB7.out.trans (HB12.out.mono HB7.out.size))).mono ?_); rintro e w13 ⟨A13, c13, rfl, hC13, hb13⟩; have HC13 := Lib.hid hC13; have HB13 : Hid (Below w7.heap.size w7 w13) := Lib.hid (bl_trans HB12.out hb13); clear hC13 hb13 HGo1)
                | (go_at_call 31; (with_reducible refine (HGo2.out _ HB13.out).mono ?_); rintro e w14 ⟨A14, c14, rfl, hC14, hb14⟩; have HC14 := Lib.hid hC14; have HC13b := Lib.hid (Kd.C_below HC13.out hb14); have HB14 : Hid (Below w7.heap.size w7 w14) := Lib.hid (bl_trans HB13.out hb14); clear hC14 hb14 HC13)
                | (go_at_call 29; (with_reducible refine (HEqF.out _ _ _ _ _ HC13b.out HC14.out).mono ?_); rintro e w15 ⟨rfl, hb15⟩; have HB15 : Hid (Below w7.heap.size w7 w15) := Lib.hid (bl_trans HB14.out hb15); clear hb15)
                | (go_at_call 14; (with_reducible refine (sessionLive_calls _).mono ?_); rintro e w19 ⟨rfl, hb19⟩; have HB19 := Lib.hid hb19; clear hb19))
              go_ret
              exact ⟨by first | rfl | (cases q <;> rfl), HB7.out.trans ((HB15.out.trans (HB19.out.mono HB15.out.size)).mono HB7.out.size)⟩
          exact AllReadyH.nil
        exact AllReadyH.nil
      exact AllReadyH.nil
    exact AllReadyH.nil
end Go.Proofs.YtdnahdddkagfhaaDoor.X
