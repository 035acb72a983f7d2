/- slices.Clone of parts; a row in which one part is another one. -/
import Derived.Test.YtdnahdddkagfhaaDoorAl
import Derived.Lib.Buffer
namespace Go.Proofs.YtdnahdddkagfhaaDoor.X
open Go.RowKit Go.Proofs.YtdnahdddkagfhaaDoorW.PrintWords Go.Proofs.YtdnahdddkagfhaaDoorW.PrintMore
attribute [local go_sem] setCell_drewN alloc_drewN
set_option linter.unusedVariables false
set_option linter.unusedSimpArgs false
namespace Ses
abbrev V1 := {v : Value // v.oneCell' = true}
def raw8 : Kd (V1 × V1 × V1 × V1 × V1 × V1 × V1 × V1) := Kd.pair raw1 (Kd.pair raw1 (Kd.pair raw1 (Kd.pair raw1 (Kd.pair raw1 (Kd.pair raw1 (Kd.pair raw1 raw1))))))
theorem raw8_open {w : World} {p} {c : List Value} (h : raw8.K w p c) : c = [p.1.1, p.2.1.1, p.2.2.1.1, p.2.2.2.1.1, p.2.2.2.2.1.1, p.2.2.2.2.2.1.1, p.2.2.2.2.2.2.1.1, p.2.2.2.2.2.2.2.1] := by
  obtain ⟨c0, d0, rfl, h0, c1, d1, rfl, h1, c2, d2, rfl, h2, c3, d3, rfl, h3, c4, d4, rfl, h4, c5, d5, rfl, h5, c6, d6, rfl, h6, h7⟩ := h
  have e0 : c0 = [_] := h0
  have e1 : c1 = [_] := h1
  have e2 : c2 = [_] := h2
  have e3 : c3 = [_] := h3
  have e4 : c4 = [_] := h4
  have e5 : c5 = [_] := h5
  have e6 : c6 = [_] := h6
  have e7 : d6 = [_] := h7
  subst e0; subst e1; subst e2; subst e3; subst e4; subst e5; subst e6; subst e7
  rfl
theorem raw8_K (w : World) (p : V1 × V1 × V1 × V1 × V1 × V1 × V1 × V1) : raw8.K w p [p.1.1, p.2.1.1, p.2.2.1.1, p.2.2.2.1.1, p.2.2.2.2.1.1, p.2.2.2.2.2.1.1, p.2.2.2.2.2.2.1.1, p.2.2.2.2.2.2.2.1] :=
  ⟨[_], _, rfl, rfl, [_], _, rfl, rfl, [_], _, rfl, rfl, [_], _, rfl, rfl, [_], _, rfl, rfl, [_], _, rfl, rfl, [_], _, rfl, rfl, rfl⟩
theorem raw8_M (w w2 : World) (b : Nat) (ok : Nat → Prop) {p : V1 × V1 × V1 × V1 × V1 × V1 × V1 × V1} {c : List Value} (h : raw8.K w p c) : raw8.M w2 b ok p c := by
  rw [raw8_open h]
  exact ⟨[_], _, rfl, rfl, [_], _, rfl, rfl, [_], _, rfl, rfl, [_], _, rfl, rfl, [_], _, rfl, rfl, [_], _, rfl, rfl, [_], _, rfl, rfl, rfl⟩
/-- A part's cells. -/
def GoodP (w : World) (y : V1 × V1 × V1 × V1 × V1 × V1 × V1 × V1) (p : SP) : Prop :=
  ∃ (A1 : Option Addr) (c1 : Nat) (A2 : Option Addr) (c2 : Nat), y = (⟨.int .u8 p.kind, rfl⟩, ⟨.int .u8 p.size, rfl⟩, ⟨.int .u64 p.num, rfl⟩, ⟨.bool p.big, rfl⟩, ⟨.bool p.comp, rfl⟩, ⟨.int .u8 p.flag, rfl⟩, ⟨.slice A1 p.data.length c1, rfl⟩, ⟨.slice A2 p.other.length c2, rfl⟩) ∧ p.data.length ≤ c1 ∧ p.other.length ≤ c2 ∧ Kd.C (Kd.int .u8) w A1 p.data.length p.data ∧ Kd.C (Kd.int .u8) w A2 p.other.length p.other
theorem sp_make {w : World} {p : SP} {A1 A2 : Option Addr} {c1 c2 : Nat} (h1 : p.data.length ≤ c1) (h2 : p.other.length ≤ c2) (h3 : Kd.C (Kd.int .u8) w A1 p.data.length p.data) (h4 : Kd.C (Kd.int .u8) w A2 p.other.length p.other) : spKd.K w p [.int .u8 p.kind, .int .u8 p.size, .int .u64 p.num, .bool p.big, .bool p.comp, .int .u8 p.flag, .slice A1 p.data.length c1, .slice A2 p.other.length c2] :=
  ⟨[_], _, rfl, rfl, [_], _, rfl, rfl, [_], _, rfl, rfl, [_], _, rfl, rfl, [_], _, rfl, rfl, [_], _, rfl, rfl, [_], _, rfl, ⟨A1, c1, rfl, h1, h3⟩, ⟨A2, c2, rfl, h2, h4⟩⟩
/-- Parts as raw cells. -/
theorem sp_raw {w : World} {A : Option Addr} {ps : List SP} (h : spKd.C w A ps.length ps) : ∃ rs : List (V1 × V1 × V1 × V1 × V1 × V1 × V1 × V1), rs.length = ps.length ∧ raw8.C w A ps.length rs ∧ ∀ (j : Nat) y p, rs[j]? = some y → ps[j]? = some p → GoodP w y p := by
  obtain ⟨h1, h2, h3⟩ := h
  by_cases hn : 0 < ps.length
  · obtain ⟨ad, rfl, hh⟩ := h3 hn
    have key : ∀ j, ∃ y : V1 × V1 × V1 × V1 × V1 × V1 × V1 × V1, ∀ p, ps[j]? = some p → GoodP w y p ∧ ∀ i u, [y.1.1, y.2.1.1, y.2.2.1.1, y.2.2.2.1.1, y.2.2.2.2.1.1, y.2.2.2.2.2.1.1, y.2.2.2.2.2.2.1.1, y.2.2.2.2.2.2.2.1][i]? = some u → w.cell? (ad.add (j * 8 + i)) = some u := by
      intro j
      by_cases hj : j < ps.length
      · obtain ⟨p, hp⟩ : ∃ p, ps[j]? = some p := ⟨_, List.getElem?_eq_getElem hj⟩
        obtain ⟨c, k1, k2, k3⟩ := hh j p hp
        obtain ⟨A1, c1, A2, c2, rfl, l1, l2, C1, C2⟩ := sp_open k2
        refine ⟨(⟨.int .u8 p.kind, rfl⟩, ⟨.int .u8 p.size, rfl⟩, ⟨.int .u64 p.num, rfl⟩, ⟨.bool p.big, rfl⟩, ⟨.bool p.comp, rfl⟩, ⟨.int .u8 p.flag, rfl⟩, ⟨.slice A1 p.data.length c1, rfl⟩, ⟨.slice A2 p.other.length c2, rfl⟩), fun q hq => ?_⟩
        rw [hp] at hq
        obtain rfl := Option.some.inj hq
        exact ⟨⟨A1, c1, A2, c2, rfl, l1, l2, C1, C2⟩, k3⟩
      · exact ⟨(⟨.bool false, rfl⟩, ⟨.bool false, rfl⟩, ⟨.bool false, rfl⟩, ⟨.bool false, rfl⟩, ⟨.bool false, rfl⟩, ⟨.bool false, rfl⟩, ⟨.bool false, rfl⟩, ⟨.bool false, rfl⟩), fun p hp => absurd (List.getElem?_eq_some_iff.1 hp).1 hj⟩
    obtain ⟨F, hF⟩ := Classical.axiomOfChoice key
    have hll : ((List.range ps.length).map F).length = ps.length := by simp
    have hget : ∀ (j : Nat) y, ((List.range ps.length).map F)[j]? = some y → j < ps.length ∧ y = F j := by
      intro j y hj
      have hj' : j < ps.length := by have := (List.getElem?_eq_some_iff.1 hj).1; omega
      rw [List.getElem?_map, List.getElem?_range hj'] at hj
      exact ⟨hj', (by simpa using hj.symm)⟩
    refine ⟨(List.range ps.length).map F, hll, ⟨hll, h2, fun _ => ⟨ad, rfl, fun j y hj => ?_⟩⟩, fun j y p hj hp => ?_⟩
    · obtain ⟨hj', rfl⟩ := hget j y hj
      exact ⟨_, rfl, raw8_K w _, fun i u hi => (hF j _ (List.getElem?_eq_getElem hj')).2 i u hi⟩
    · obtain ⟨hj', rfl⟩ := hget j y hj
      exact (hF j p hp).1
  · have h0 : ps = [] := List.eq_nil_of_length_eq_zero (by omega)
    subst h0
    exact ⟨[], rfl, ⟨rfl, by simp, fun h => absurd h (by simp)⟩, fun j y p hj => by simp at hj⟩
/-- The cells of raw ones. -/
def cells8 (p : V1 × V1 × V1 × V1 × V1 × V1 × V1 × V1) : List Value := [p.1.1, p.2.1.1, p.2.2.1.1, p.2.2.2.1.1, p.2.2.2.2.1.1, p.2.2.2.2.2.1.1, p.2.2.2.2.2.2.1.1, p.2.2.2.2.2.2.2.1]
/-- One cell of one part is another one. -/
theorem raw_set {w : World} {g n k i : Nat} {rs : List (V1 × V1 × V1 × V1 × V1 × V1 × V1 × V1)} {y y' : V1 × V1 × V1 × V1 × V1 × V1 × V1 × V1} {v : Value} {t : TypeId} (h : raw8.C w (some ⟨g, 0, none⟩) n rs) (hy : rs[k]? = some y) (hc : cells8 y' = (cells8 y).set i v) (hi : i < 8) (hb : ∃ cells, w.heap[g]? = some (.cells cells t (0, 0))) : raw8.C (w.setCell ⟨g, k * 8 + i, none⟩ v) (some ⟨g, 0, none⟩) n (rs.set k y') := by
  obtain ⟨h1, h2, h3⟩ := h
  obtain ⟨cells, hcl⟩ := hb
  have hk := (List.getElem?_eq_some_iff.1 hy).1
  refine ⟨by rw [List.length_set]; exact h1, h2, fun hp => ⟨⟨g, 0, none⟩, rfl, fun j x hj => ?_⟩⟩
  obtain ⟨ad, had, hh⟩ := h3 hp
  obtain rfl := Option.some.inj had
  by_cases hjk : j = k
  · subst hjk
    rw [List.getElem?_set_self hk] at hj
    obtain rfl := Option.some.inj hj
    obtain ⟨c, k1, k2, k3⟩ := hh j y hy
    have e := raw8_open k2
    subst e
    refine ⟨cells8 y', rfl, raw8_K _ y', fun i' u hu => ?_⟩
    rw [hc] at hu
    rw [Lib.addr_add, Nat.zero_add]
    have hold := k3 i ((cells8 y)[i]'(by show i < 8; exact hi)) (List.getElem?_eq_getElem _)
    rw [Lib.addr_add, Nat.zero_add, xb_cell hcl] at hold
    have hin := (Array.getElem?_eq_some_iff.1 hold).1
    by_cases hii : i' = i
    · subst hii
      rw [List.getElem?_set_self (by show i' < 8; exact hi)] at hu
      rw [xb_cell (xb_set hcl (j * 8 + i') v)]
      show (cells.setIfInBounds (j * 8 + i') v)[j * 8 + i']? = some u
      have hin : j * 8 + i' < cells.size := hin
      simp only [Array.getElem?_setIfInBounds, if_true, hin]
      exact hu
    · rw [List.getElem?_set_ne (fun e => hii e.symm)] at hu
      have := k3 i' u hu
      rw [Lib.addr_add, Nat.zero_add] at this
      rw [World.cell?_setCell_other _ _ _ _ (fun e => by injection e with _ e _; have e8 : raw8.sz = 8 := rfl; rw [e8] at e; omega)]
      exact this
  · rw [List.getElem?_set_ne (fun e => hjk e.symm)] at hj
    obtain ⟨c, k1, k2, k3⟩ := hh j x hj
    refine ⟨c, k1, (by rw [raw8_open k2]; exact raw8_K _ x), fun i' u hu => ?_⟩
    have h0 := k3 i' u hu
    have hi' : i' < 8 := by have := (List.getElem?_eq_some_iff.1 hu).1; have e8 : raw8.sz = 8 := rfl; rw [k1, e8] at this; exact this
    rw [Lib.addr_add, Nat.zero_add] at h0 ⊢
    rw [World.cell?_setCell_other _ _ _ _ (fun e => by injection e with _ e _; have e8 : raw8.sz = 8 := rfl; rw [e8] at e; omega)]
    exact h0
theorem row_C {α : Type} {d : Kd α} {w : World} {g : Nat} {cells : Array Value} {ty : TypeId} {fr : Nat × Nat} {xs : List α} (hb : w.heap[g]? = some (.cells cells ty fr)) (hm : xs.length ≤ 9223372036854775807) (h : ∀ j p, xs[j]? = some p → ∃ c, c.length = d.sz ∧ d.K w p c ∧ ∀ i u, c[i]? = some u → cells[j * d.sz + i]? = some u) : d.C w (some ⟨g, 0, none⟩) xs.length xs :=
  ⟨rfl, hm, fun _ => ⟨⟨g, 0, none⟩, rfl, fun j p hj => by
    obtain ⟨c, h1, h2, h3⟩ := h j p hj
    refine ⟨c, h1, h2, fun i u hi => ?_⟩
    rw [Lib.addr_add, Nat.zero_add, xb_cell hb]
    exact h3 i u hi⟩⟩
/-- A row of one part. -/
theorem one_C {w : World} {g : Nat} {p : SP} {A1 A2 : Option Addr} {c1 c2 : Nat} {ty : TypeId} {fr : Nat × Nat} (hb : w.heap[g]? = some (.cells #[.int .u8 p.kind, .int .u8 p.size, .int .u64 p.num, .bool p.big, .bool p.comp, .int .u8 p.flag, .slice A1 p.data.length c1, .slice A2 p.other.length c2] ty fr)) (h1 : p.data.length ≤ c1) (h2 : p.other.length ≤ c2) (h3 : Kd.C (Kd.int .u8) w A1 p.data.length p.data) (h4 : Kd.C (Kd.int .u8) w A2 p.other.length p.other) : spKd.C w (some ⟨g, 0, none⟩) [p].length [p] := by
  refine row_C (d := spKd) hb (by simp) (fun j q hj => ?_)
  match j, hj with
  | 0, hj =>
    obtain rfl := Option.some.inj hj
    refine ⟨[.int .u8 p.kind, .int .u8 p.size, .int .u64 p.num, .bool p.big, .bool p.comp, .int .u8 p.flag, .slice A1 p.data.length c1, .slice A2 p.other.length c2], rfl, sp_make h1 h2 h3 h4, fun i u hi => ?_⟩
    have e : 0 * spKd.sz + i = i := by omega
    rw [e]
    simpa using hi
/-- And back. -/
theorem raw_sp {w w' : World} {B : Option Addr} {rs : List (V1 × V1 × V1 × V1 × V1 × V1 × V1 × V1)} {ps : List SP} (hl : rs.length = ps.length) (h : raw8.C w' B ps.length rs) (hb : Below w.heap.size w w') (hg : ∀ (j : Nat) y p, rs[j]? = some y → ps[j]? = some p → GoodP w y p) : spKd.C w' B ps.length ps := by
  obtain ⟨h1, h2, h3⟩ := h
  refine ⟨rfl, h2, fun hp => ?_⟩
  obtain ⟨ad, rfl, hh⟩ := h3 hp
  refine ⟨ad, rfl, fun j p hj => ?_⟩
  have hjl : j < rs.length := by have := (List.getElem?_eq_some_iff.1 hj).1; omega
  have hx : rs[j]? = some rs[j] := List.getElem?_eq_getElem hjl
  obtain ⟨c, k1, k2, k3⟩ := hh j _ hx
  have e := raw8_open k2
  obtain ⟨A1, c1, A2, c2, e1, e2, e3, e4, e5⟩ := hg j _ p hx hj
  rw [e1] at e
  refine ⟨c, k1, ?_, k3⟩
  rw [e]
  exact sp_make e2 e3 (Kd.C_below e4 hb) (Kd.C_below e5 hb)
end Ses
set_option maxHeartbeats 4000000 in
set_option maxRecDepth 100000 in
theorem cloneParts_ok (ps : List Ses.SP) (a : Addr) (cA : Nat) (w : World) (hC : Ses.spKd.C w (some a) ps.length ps) (hp : 0 < ps.length) (hn : ps.length ≤ 20) (hle : ps.length ≤ cA) :
    Calls Tryd.prog 37 #[.slice (some a) ps.length cA] w fun e w' => ∃ g c, e = .returned (.slice (some ⟨g, 0, none⟩) ps.length c) ∧ w.heap.size ≤ g ∧ ps.length ≤ c ∧ (∃ rs : List (Ses.V1 × Ses.V1 × Ses.V1 × Ses.V1 × Ses.V1 × Ses.V1 × Ses.V1 × Ses.V1), rs.length = ps.length ∧ Ses.raw8.C w' (some ⟨g, 0, none⟩) ps.length rs ∧ ∀ (j : Nat) y p, rs[j]? = some y → ps[j]? = some p → Ses.GoodP w y p) ∧ (∃ cells, w'.heap[g]? = some (.cells cells 70 (0, 0))) ∧ Below w.heap.size w w' := by
  have infP : (Tryd.prog.info? 70).map (fun i => (i.zero, i.size, i.bytes)) = some (some (.agg #[.int .u8 0, .int .u8 0, .int .u64 0, .bool false, .bool false, .int .u8 0, .slice none 0 0, .slice none 0 0]), 8, 72) := by kernel_rfl
  obtain ⟨rs, hl, hrs, hgood⟩ := Ses.sp_raw hC
  have HRs := Lib.hid hrs
  have HGood := Lib.hid hgood
  have HL := Lib.hid hl
  obtain ⟨n, hnl⟩ : ∃ n, n = ps.length := ⟨_, rfl⟩
  have HN := Lib.hid hnl
  rw [← hnl] at hp hn hle ⊢
  have heq : ∀ W : World, Sem.run Tryd.prog (binOp BinOp.eql 51 (Value.slice (some a) n cA) (Value.slice none 0 0)) W = .ok (.bool false) W := fun W => by
    have u := Tryd.underlying51
    simp only [binOp, go_sem, u]
    try rfl
  clear hC hrs hgood hl hnl
  go_enter Tryd.func37, Tryd.ntmps37
  go_wp2_with (first
    | ((with_reducible refine gate_dst (N := 5) rfl ?_); refine Kd.R_lit Ses.raw8 w.heap.size 70 ?hg (N := 5) ?hd (xs := []) (inner := []) (ok := fun _ => True) (okp := fun _ => True) ?hr ?hp (fun _ hk => hk) trivial (Below.refl _ _) (Nat.le_refl _) (by simp) ?_; (case hd => rfl); (case hg => rfl); (case hr => first | (go_simp; done) | (go_simp; rfl)); (case hp => exact ⟨rfl, fun j p hj => by simp at hj⟩); intro v5 w5 ho hb hg hat; have HO5 := Lib.hid ho; have HB5 := Lib.hid hb; clear ho hb hg hat)
    | ((with_reducible refine gate_builtin (b := .append) (xs := #[.tmp 5, .tmp 6]) rfl ?_); at_builtin; refine Kd.R_append_rows Ses.raw8 (Rr := Ses.raw8.K w5) (w0 := w) w.heap.size rfl (.tmp 5) (.tmp 6) 51 70 _ 72 rfl Tryd.underlying51 infP rfl (by decide) (by decide) v5 [] rs (some a) n cA (fun _ => True) (fun _ => False) ?aV ?aX ?aO ?aR ?aK (fun k hk => absurd hk id) (fun _ _ => trivial) ?aB ?aS ?aL ?_; (case aV => exact rfl); (case aX => exact rfl); (case aO => exact HO5.out); (case aR => exact (by have h := Kd.C_below HRs.out HB5.out; rw [← HN.out] at h; exact h)); (case aK => exact fun x cs h => Ses.raw8_M _ _ _ _ h); (case aB => exact HB5.out); (case aS => exact HB5.out.size); (case aL => (simp only [List.length_nil]; omega)); intro v10 w10 ho hb hg hat; have HO10 := Lib.hid ho; have HB10 := Lib.hid hb; clear ho hb hg hat))
  go_ret
  have hR := HO10.out
  rw [List.nil_append] at hR
  obtain ⟨g, c, rfl, hbg, hlt, hcells⟩ := Kd.R_form hR (by rw [HL.out, ← HN.out]; exact hp)
  obtain ⟨e1, e2, e3⟩ := Kd.R_reads' hR
  refine ⟨g, c, by rw [HL.out, ← HN.out]; rfl, hbg, by rw [HN.out, ← HL.out]; exact e2, ⟨rs, by rw [HL.out, ← HN.out], ?_, HGood.out⟩, hcells, HB10.out⟩
  rw [HN.out, ← HL.out]
  exact e3
end Go.Proofs.YtdnahdddkagfhaaDoor.X
