/- sessionGot: what reading parts gives. -/
import Derived.Test.YtdnahdddkagfhaaDoorSj
namespace Go.Proofs.YtdnahdddkagfhaaDoor.X
open Go.RowKit Go.Proofs.YtdnahdddkagfhaaDoorW.PrintWords Go.Proofs.YtdnahdddkagfhaaDoorW.PrintMore
attribute [local go_sem] setCell_drewN alloc_drewN
set_option linter.unusedVariables false
set_option linter.unusedSimpArgs false
namespace Ses
/-- A value of one cell. -/
def raw1 : Kd {v : Value // v.oneCell' = true} := Kd.scalar (fun v => v.1) (fun v => v.2)
/-- A reading whose bytes lie elsewhere. -/
def rgKd : Kd (Bool × {v : Value // v.oneCell' = true} × {v : Value // v.oneCell' = true} × Int × ByteArray) := Kd.pair Kd.bool (Kd.pair raw1 (Kd.pair raw1 (Kd.pair (Kd.int .i64) Kd.string)))
theorem rg_make (w : World) (b : Nat) (ok : Nat → Prop) (o : Bool) (v1 v2 : {v : Value // v.oneCell' = true}) (n : Int) (s : ByteArray) : rgKd.M w b ok (o, v1, v2, n, s) [.bool o, v1.1, v2.1, .int .i64 n, .string s] :=
  ⟨[_], _, rfl, rfl, [_], _, rfl, rfl, [_], _, rfl, rfl, [_], _, rfl, rfl, rfl⟩
theorem rg_open {w : World} {p} {c : List Value} (h : rgKd.K w p c) : c = [.bool p.1, p.2.1.1, p.2.2.1.1, .int .i64 p.2.2.2.1, .string p.2.2.2.2] := by
  obtain ⟨c0, d0, rfl, h0, c1, d1, rfl, h1, c2, d2, rfl, h2, c3, d3, rfl, h3, h4⟩ := h
  have e0 : c0 = [_] := h0
  have e1 : c1 = [_] := h1
  have e2 : c2 = [_] := h2
  have e3 : c3 = [_] := h3
  have e4 : d3 = [_] := h4
  subst e0; subst e1; subst e2; subst e3; subst e4
  rfl
/-- A reading of a part: where its bytes lie. -/
def Good (w : World) (x : Bool × {v : Value // v.oneCell' = true} × {v : Value // v.oneCell' = true} × Int × ByteArray) (g : Gt) : Prop :=
  ∃ A c B d, x.1 = true ∧ x.2.1.1 = .slice A g.data.length c ∧ x.2.2.1.1 = .slice B g.other.length d ∧ x.2.2.2.1 = g.num ∧ x.2.2.2.2 = ⟨#[]⟩ ∧ g.ok = true ∧ g.data.length ≤ c ∧ g.other.length ≤ d ∧ Kd.C (Kd.int .u8) w A g.data.length g.data ∧ Kd.C (Kd.int .u8) w B g.other.length g.other
theorem rg_gt {w w' : World} {B : Option Addr} {rs} {gs : List Gt} (hl : rs.length = gs.length) (h : rgKd.C w' B rs.length rs) (hb : Below w.heap.size w w') (hg : ∀ (j : Nat) x g, rs[j]? = some x → gs[j]? = some g → Good w x g) : gtKd.C w' B gs.length gs := by
  obtain ⟨h1, h2, h3⟩ := h
  refine ⟨rfl, by rw [← hl]; exact h2, fun hp => ?_⟩
  obtain ⟨ad, rfl, hh⟩ := h3 (by omega)
  refine ⟨ad, rfl, fun j g hj => ?_⟩
  have hjl : j < rs.length := by have := (List.getElem?_eq_some_iff.1 hj).1; omega
  have hx : rs[j]? = some rs[j] := List.getElem?_eq_getElem hjl
  obtain ⟨c, k1, k2, k3⟩ := hh j _ hx
  have e := rg_open k2
  obtain ⟨A, cc, D, dd, e1, e2, e3, e4, e5, e6, e7, e8, e9, e10⟩ := hg j _ g hx hj
  rw [e1, e2, e3, e4, e5] at e
  refine ⟨c, k1, ?_, k3⟩
  rw [e, ← e6]
  exact ⟨[_], _, rfl, rfl, [_], _, rfl, ⟨A, cc, rfl, e7, Kd.C_below e9 hb⟩, [_], _, rfl, ⟨D, dd, rfl, e8, Kd.C_below e10 hb⟩, [_], _, rfl, rfl, rfl⟩
end Ses
namespace Ses
theorem good_snoc {w : World} {rs} {ps : List SP} {j : Nat} {p : SP} {x} (h : ∀ (i : Nat) y q, rs[i]? = some y → ps[i]? = some q → Good w y (gotOf q)) (hl : rs.length = j) (hp : ps[j]? = some p) (hx : Good w x (gotOf p)) : ∀ (i : Nat) y q, (rs ++ [x])[i]? = some y → ps[i]? = some q → Good w y (gotOf q) := by
  intro i y q hy hq
  by_cases hi : i < rs.length
  · rw [List.getElem?_append_left hi] at hy
    exact h i y q hy hq
  · have hij : i = j := by
      have := (List.getElem?_eq_some_iff.1 hy).1
      rw [List.length_append] at this
      simp only [List.length_cons, List.length_nil] at this
      omega
    subst hij
    rw [List.getElem?_append_right (by omega), hl, Nat.sub_self] at hy
    rw [hp] at hq
    rw [← Option.some.inj hq, ← Option.some.inj hy]
    exact hx
end Ses
set_option maxHeartbeats 16000000 in
set_option maxRecDepth 100000 in
theorem sessionGot_ok (ps : List Ses.SP) (A : Option Addr) (cA : Nat) (w : World) (hC : Ses.spKd.C w A ps.length ps) (ok : ∀ p ∈ ps, Ses.SPok p ∧ 0 ≤ p.flag ∧ p.flag ≤ 255) (hn : ps.length ≤ 20) :
    Calls Tryd.prog 31 #[.slice A ps.length cA] w fun e w' => ∃ B c, e = .returned (.slice B ps.length c) ∧ ps.length ≤ c ∧ Ses.gtKd.C w' B ps.length (ps.map Ses.gotOf) ∧ Below w.heap.size w w' := by
  have infG : (Tryd.prog.info? 38).map (fun i => (i.zero, i.size, i.bytes)) = some (some (.agg #[.bool false, .slice none 0 0, .slice none 0 0, .int .i64 0, .string ⟨#[]⟩]), 5, 80) := by kernel_rfl
  have HC := Lib.hid hC
  have HOk := Lib.hid ok
  obtain ⟨n, hnl⟩ : ∃ n, n = ps.length := ⟨_, rfl⟩
  have HN := Lib.hid hnl
  rw [← hnl] at hn ⊢
  clear hC ok hnl
  go_enter Tryd.func31, Tryd.ntmps31
  go_wp2
  go_loopw [3, 11] (fun v3 v11 wr => ∃ (j : Nat) (rs : List (Bool × {v : Value // v.oneCell' = true} × {v : Value // v.oneCell' = true} × Int × ByteArray)), v11 = .int .i64 j ∧ j ≤ n ∧ Hid (Ses.rgKd.R 38 wr w.heap.size (fun _ => True) v3 rs) ∧ Hid (Below w.heap.size w wr) ∧ Hid (rs.length = j) ∧ Hid (∀ (i : Nat) y q, rs[i]? = some y → ps[i]? = some q → Ses.Good w y (Ses.gotOf q))) (fun _ v11 _ => n - (intOf v11).toNat)
  case atStart => exact ⟨0, [], rfl, Nat.zero_le _, Lib.hid (Kd.R_nil _ _ _ _ _), Lib.hid (Below.refl _ _), Lib.hid rfl, Lib.hid (fun i y q h => by simp at h)⟩
  case round =>
    obtain ⟨j, rs, rfl, hj, HRow, HB, HL, HG⟩ := hrel
    by_cases hlt : j < n
    · have hjl : j < ps.length := by rw [← HN.out]; exact hlt
      have t2 : decide ((j : Int) < (n : Int)) = true := decide_eq_true (by omega)
      obtain ⟨p, hp⟩ : ∃ p, ps[j]? = some p := ⟨_, List.getElem?_eq_getElem hjl⟩
      obtain ⟨g0, o0, rfl, -, hel0⟩ := Kd.C_head HC.out (by decide) (by omega)
      obtain ⟨cl0, -, hK0, hcell0⟩ := hel0 j p hp
      obtain ⟨A1, c1, A2, c2, rfl, hle1, hle2, hA1, hA2⟩ := Ses.sp_open hK0
      have hcell : ∀ i u, _ → wr.cell? ⟨g0, o0 + j * 8 + i, none⟩ = some u := fun i u h => bl_cell HB.out (hcell0 i u h)
      obtain ⟨kd, size, num, pb, pc, flag, data, other⟩ := p
      simp only at hA1 hA2 hle1 hle2 hcell
      have s0 : wr.cell? ⟨g0, o0 + j * 8, none⟩ = some (.int .u8 kd) := hcell 0 _ rfl
      have s1 : wr.cell? ⟨g0, o0 + j * 8 + 1, none⟩ = some (.int .u8 size) := hcell 1 _ rfl
      have s2 : wr.cell? ⟨g0, o0 + j * 8 + 2, none⟩ = some (.int .u64 num) := hcell 2 _ rfl
      have s3 : wr.cell? ⟨g0, o0 + j * 8 + 3, none⟩ = some (.bool pb) := hcell 3 _ rfl
      have s4 : wr.cell? ⟨g0, o0 + j * 8 + 4, none⟩ = some (.bool pc) := hcell 4 _ rfl
      have s5 : wr.cell? ⟨g0, o0 + j * 8 + 5, none⟩ = some (.int .u8 flag) := hcell 5 _ rfl
      have s6 : wr.cell? ⟨g0, o0 + j * 8 + 6, none⟩ = some (.slice A1 data.length c1) := hcell 6 _ rfl
      have s7 : wr.cell? ⟨g0, o0 + j * 8 + 7, none⟩ = some (.slice A2 other.length c2) := hcell 7 _ rfl
      have HP := Lib.hid hp
      obtain ⟨⟨k0, k1, z0', z1', n0, n1, hd1, hd2⟩, fl0, fl1⟩ := HOk.out _ (List.mem_of_getElem? hp)
      simp only at k0 k1 z0' z1' n0 n1 hd1 hd2 fl0 fl1
      have HC1 := Lib.hid hA1
      have HC2 := Lib.hid hA2
      obtain ⟨nd, hnd⟩ : ∃ nd, nd = data.length := ⟨_, rfl⟩
      obtain ⟨no, hno⟩ : ∃ no, no = other.length := ⟨_, rfl⟩
      rw [← hnd] at s6 hle1 hd1
      rw [← hno] at s7 hle2 hd2
      have HNd := Lib.hid hnd
      have HNo := Lib.hid hno
      clear hp hel0 hK0 hcell hcell0 hA1 hA2 hjl hnd hno
      have HSz := Lib.hid (fun W => sessionSize_ok kd size num flag pb pc (.slice A1 nd c1) (.slice A2 no c2) A1 A2 nd c1 no c2 rfl rfl W ⟨k0, k1⟩ ⟨z0', z1'⟩ ⟨n0, n1⟩)
      obtain ⟨sz, hsz⟩ : ∃ sz, sz = Ses.szOf size := ⟨_, rfl⟩
      obtain ⟨nm, hnm⟩ : ∃ nm, nm = Ses.numOf kd size num := ⟨_, rfl⟩
      rw [← hsz, ← hnm] at HSz
      have HNm : Hid (Ses.numOf kd size num = nm) := Lib.hid hnm.symm
      clear hsz hnm
      have hm6 : kd % 6 = 0 ∨ kd % 6 = 1 ∨ kd % 6 = 5 ∨ kd % 6 = 2 ∨ kd % 6 = 3 ∨ kd % 6 = 4 := by omega
      have hcv : IntKind.i64.wrap nm = Ses.toI nm := rfl
      have hwf : IntKind.i64.wrap flag = flag := (IntKind.wrap_i64 _).trans (by omega)
      rcases hm6 with hm | hm | hm | hm | hm | hm
      · have t0k : decide (kd % 6 = 0) = true := decide_eq_true (by omega)
        have t1k : decide (kd % 6 = 1) = false := decide_eq_false (by omega)
        have t2k : decide (kd % 6 = 2) = false := decide_eq_false (by omega)
        have t3k : decide (kd % 6 = 3) = false := decide_eq_false (by omega)
        have t4k : decide (kd % 6 = 4) = false := decide_eq_false (by omega)
        have t5k : decide (kd % 6 = 5) = false := decide_eq_false (by omega)
        go_wp2_with (first
          | (go_at_call 53; (with_reducible refine (HSz.out _).mono ?_); rintro e w5 ⟨rfl, hb5⟩; have hq0 : ((wr.alloc (.cells #[.int .u8 kd, .int .u8 size, .int .u64 num, .bool pb, .bool pc, .int .u8 flag, .slice A1 nd c1, .slice A2 no c2] 70)).alloc (.cells #[.bool true, .slice none 0 0, .slice none 0 0, .int .i64 0, .string ⟨#[]⟩] 38)).heap[wr.heap.size]? = some (.cells #[.int .u8 kd, .int .u8 size, .int .u64 num, .bool pb, .bool pc, .int .u8 flag, .slice A1 nd c1, .slice A2 no c2] 70 (0, 0)) := xb_alloc (xb_new _ _); have hq1 : ((wr.alloc (.cells #[.int .u8 kd, .int .u8 size, .int .u64 num, .bool pb, .bool pc, .int .u8 flag, .slice A1 nd c1, .slice A2 no c2] 70)).alloc (.cells #[.bool true, .slice none 0 0, .slice none 0 0, .int .i64 0, .string ⟨#[]⟩] 38)).heap[wr.heap.size + 1]? = some (.cells #[.bool true, .slice none 0 0, .slice none 0 0, .int .i64 0, .string ⟨#[]⟩] 38 (0, 0)) := (by have h := xb_new (wr.alloc (.cells #[.int .u8 kd, .int .u8 size, .int .u64 num, .bool pb, .bool pc, .int .u8 flag, .slice A1 nd c1, .slice A2 no c2] 70)) (.cells #[.bool true, .slice none 0 0, .slice none 0 0, .int .i64 0, .string ⟨#[]⟩] 38); rw [World.size_alloc] at h; exact h); have kq0 := blk_bl hq0 hb5 (xb_lt hq0); have kq1 := blk_bl hq1 hb5 (xb_lt hq1); have q0 : w5.cell? ⟨wr.heap.size, 0, none⟩ = some (.int .u8 kd) := xb_cell kq0 0; have q5 : w5.cell? ⟨wr.heap.size, 5, none⟩ = some (.int .u8 flag) := xb_cell kq0 5; have q6 : w5.cell? ⟨wr.heap.size, 6, none⟩ = some (.slice A1 nd c1) := xb_cell kq0 6; have q7 : w5.cell? ⟨wr.heap.size, 7, none⟩ = some (.slice A2 no c2) := xb_cell kq0 7; have z0 : w5.cell? ⟨wr.heap.size + 1, 0, none⟩ = some (.bool true) := xb_cell kq1 0; have z1 : w5.cell? ⟨wr.heap.size + 1, 1, none⟩ = some (.slice none 0 0) := xb_cell kq1 1; have z2 : w5.cell? ⟨wr.heap.size + 1, 2, none⟩ = some (.slice none 0 0) := xb_cell kq1 2; have z3 : w5.cell? ⟨wr.heap.size + 1, 3, none⟩ = some (.int .i64 0) := xb_cell kq1 3; have z4 : w5.cell? ⟨wr.heap.size + 1, 4, none⟩ = some (.string ⟨#[]⟩) := xb_cell kq1 4; have f1 := blk_free kq1 1; have f2 := blk_free kq1 2; have f3 := blk_free kq1 3; have HK1 := Lib.hid kq1; have HS5 : Hid (wr.heap.size + 1 < w5.heap.size) := Lib.hid (xb_lt kq1); have HB5 : Hid (Below wr.heap.size wr w5) := Lib.hid ((below_alloc (below_alloc (Below.refl _ _) _) _).trans (hb5.mono (by rw [World.size_alloc, World.size_alloc]; omega))); have kw := xb_set kq1 1 (.slice A1 nd c1); have y0 : (w5.setCell ⟨wr.heap.size + 1, 1, none⟩ (.slice A1 nd c1)).cell? ⟨wr.heap.size + 1, 0, none⟩ = some (.bool true) := xb_cell kw 0; have y1 : (w5.setCell ⟨wr.heap.size + 1, 1, none⟩ (.slice A1 nd c1)).cell? ⟨wr.heap.size + 1, 1, none⟩ = some (.slice A1 nd c1) := xb_cell kw 1; have y2 : (w5.setCell ⟨wr.heap.size + 1, 1, none⟩ (.slice A1 nd c1)).cell? ⟨wr.heap.size + 1, 2, none⟩ = some (.slice none 0 0) := xb_cell kw 2; have y3 : (w5.setCell ⟨wr.heap.size + 1, 1, none⟩ (.slice A1 nd c1)).cell? ⟨wr.heap.size + 1, 3, none⟩ = some (.int .i64 0) := xb_cell kw 3; have y4 : (w5.setCell ⟨wr.heap.size + 1, 1, none⟩ (.slice A1 nd c1)).cell? ⟨wr.heap.size + 1, 4, none⟩ = some (.string ⟨#[]⟩) := xb_cell kw 4; have HW : Hid (Below wr.heap.size wr (w5.setCell ⟨wr.heap.size + 1, 1, none⟩ (.slice A1 nd c1))) := Lib.hid (HB5.out.setCell (Nat.le_succ _) _); clear kw; clear hq0 hq1 kq0 kq1 hb5)
          | ((with_reducible refine gate_builtin (b := .append) (xs := #[.tmp 49, .tmp 51]) rfl ?_); at_builtin; refine Kd.R_append Ses.rgKd (w0 := w) w.heap.size rfl (.tmp 49) (.tmp 51) 31 38 _ 80 rfl Tryd.underlying31 infG rfl (by decide) (by decide) u3 rs (true, ⟨.slice A1 nd c1, rfl⟩, ⟨.slice none 0 0, rfl⟩, 0, ⟨#[]⟩) [.bool true, .slice A1 nd c1, .slice none 0 0, .int .i64 0, .string ⟨#[]⟩] (fun _ => True) (fun k => False) ?aV ?aX ?aP ?aK (fun _ _ => trivial) ?aO ?aB ?aS ?aL ?_; (case aV => exact rfl); (case aX => first | exact rfl | (simp only [World.size_alloc, World.size_setCell]; exact rfl)); (case aP => exact Ses.rg_make _ _ _ _ _ _ _ _); (case aK => exact fun k hk => absurd hk id); (case aO => exact Kd.R_below HRow.out HW.out); (case aB => exact HB.out.trans (HW.out.mono HB.out.size)); (case aS => exact (HB.out.trans (HW.out.mono HB.out.size)).size); (case aL => (rw [HL.out]; omega)); intro v10 w10 ho hb hg hat; have HO10 := Lib.hid ho; have HB10 := Lib.hid hb; clear ho hb hg hat))
        go_roundw
        case measure => simp [intOf]; omega
        case rel =>
          refine ⟨j + 1, rs ++ [(true, ⟨.slice A1 nd c1, rfl⟩, ⟨.slice none 0 0, rfl⟩, 0, ⟨#[]⟩)], by go_num, by omega, HO10, HB10, Lib.hid (by rw [List.length_append, HL.out]; rfl), Lib.hid (Ses.good_snoc HG.out HL.out HP.out ?_)⟩
          have hgo : Ses.gotOf ⟨kd, size, num, pb, pc, flag, data, other⟩ = ⟨true, data, [], 0⟩ := by
            unfold Ses.gotOf
            rw [if_neg (by simp only; omega), if_neg (by simp only; omega)]
          rw [hgo]
          exact ⟨A1, c1, none, 0, rfl, by rw [HNd.out], rfl, rfl, rfl, rfl, by rw [← HNd.out]; exact hle1, Nat.le_refl _, HC1.out, Kd.C_nil _ _⟩
      · have t0k : decide (kd % 6 = 0) = false := decide_eq_false (by omega)
        have t1k : decide (kd % 6 = 1) = true := decide_eq_true (by omega)
        have t2k : decide (kd % 6 = 2) = false := decide_eq_false (by omega)
        have t3k : decide (kd % 6 = 3) = false := decide_eq_false (by omega)
        have t4k : decide (kd % 6 = 4) = false := decide_eq_false (by omega)
        have t5k : decide (kd % 6 = 5) = false := decide_eq_false (by omega)
        go_wp2_with (first
          | (go_at_call 53; (with_reducible refine (HSz.out _).mono ?_); rintro e w5 ⟨rfl, hb5⟩; have hq0 : ((wr.alloc (.cells #[.int .u8 kd, .int .u8 size, .int .u64 num, .bool pb, .bool pc, .int .u8 flag, .slice A1 nd c1, .slice A2 no c2] 70)).alloc (.cells #[.bool true, .slice none 0 0, .slice none 0 0, .int .i64 0, .string ⟨#[]⟩] 38)).heap[wr.heap.size]? = some (.cells #[.int .u8 kd, .int .u8 size, .int .u64 num, .bool pb, .bool pc, .int .u8 flag, .slice A1 nd c1, .slice A2 no c2] 70 (0, 0)) := xb_alloc (xb_new _ _); have hq1 : ((wr.alloc (.cells #[.int .u8 kd, .int .u8 size, .int .u64 num, .bool pb, .bool pc, .int .u8 flag, .slice A1 nd c1, .slice A2 no c2] 70)).alloc (.cells #[.bool true, .slice none 0 0, .slice none 0 0, .int .i64 0, .string ⟨#[]⟩] 38)).heap[wr.heap.size + 1]? = some (.cells #[.bool true, .slice none 0 0, .slice none 0 0, .int .i64 0, .string ⟨#[]⟩] 38 (0, 0)) := (by have h := xb_new (wr.alloc (.cells #[.int .u8 kd, .int .u8 size, .int .u64 num, .bool pb, .bool pc, .int .u8 flag, .slice A1 nd c1, .slice A2 no c2] 70)) (.cells #[.bool true, .slice none 0 0, .slice none 0 0, .int .i64 0, .string ⟨#[]⟩] 38); rw [World.size_alloc] at h; exact h); have kq0 := blk_bl hq0 hb5 (xb_lt hq0); have kq1 := blk_bl hq1 hb5 (xb_lt hq1); have q0 : w5.cell? ⟨wr.heap.size, 0, none⟩ = some (.int .u8 kd) := xb_cell kq0 0; have q5 : w5.cell? ⟨wr.heap.size, 5, none⟩ = some (.int .u8 flag) := xb_cell kq0 5; have q6 : w5.cell? ⟨wr.heap.size, 6, none⟩ = some (.slice A1 nd c1) := xb_cell kq0 6; have q7 : w5.cell? ⟨wr.heap.size, 7, none⟩ = some (.slice A2 no c2) := xb_cell kq0 7; have z0 : w5.cell? ⟨wr.heap.size + 1, 0, none⟩ = some (.bool true) := xb_cell kq1 0; have z1 : w5.cell? ⟨wr.heap.size + 1, 1, none⟩ = some (.slice none 0 0) := xb_cell kq1 1; have z2 : w5.cell? ⟨wr.heap.size + 1, 2, none⟩ = some (.slice none 0 0) := xb_cell kq1 2; have z3 : w5.cell? ⟨wr.heap.size + 1, 3, none⟩ = some (.int .i64 0) := xb_cell kq1 3; have z4 : w5.cell? ⟨wr.heap.size + 1, 4, none⟩ = some (.string ⟨#[]⟩) := xb_cell kq1 4; have f1 := blk_free kq1 1; have f2 := blk_free kq1 2; have f3 := blk_free kq1 3; have HK1 := Lib.hid kq1; have HS5 : Hid (wr.heap.size + 1 < w5.heap.size) := Lib.hid (xb_lt kq1); have HB5 : Hid (Below wr.heap.size wr w5) := Lib.hid ((below_alloc (below_alloc (Below.refl _ _) _) _).trans (hb5.mono (by rw [World.size_alloc, World.size_alloc]; omega))); have kw := xb_set kq1 1 (.slice A1 nd c1); have y0 : (w5.setCell ⟨wr.heap.size + 1, 1, none⟩ (.slice A1 nd c1)).cell? ⟨wr.heap.size + 1, 0, none⟩ = some (.bool true) := xb_cell kw 0; have y1 : (w5.setCell ⟨wr.heap.size + 1, 1, none⟩ (.slice A1 nd c1)).cell? ⟨wr.heap.size + 1, 1, none⟩ = some (.slice A1 nd c1) := xb_cell kw 1; have y2 : (w5.setCell ⟨wr.heap.size + 1, 1, none⟩ (.slice A1 nd c1)).cell? ⟨wr.heap.size + 1, 2, none⟩ = some (.slice none 0 0) := xb_cell kw 2; have y3 : (w5.setCell ⟨wr.heap.size + 1, 1, none⟩ (.slice A1 nd c1)).cell? ⟨wr.heap.size + 1, 3, none⟩ = some (.int .i64 0) := xb_cell kw 3; have y4 : (w5.setCell ⟨wr.heap.size + 1, 1, none⟩ (.slice A1 nd c1)).cell? ⟨wr.heap.size + 1, 4, none⟩ = some (.string ⟨#[]⟩) := xb_cell kw 4; have HW : Hid (Below wr.heap.size wr (w5.setCell ⟨wr.heap.size + 1, 1, none⟩ (.slice A1 nd c1))) := Lib.hid (HB5.out.setCell (Nat.le_succ _) _); clear kw; clear hq0 hq1 kq0 kq1 hb5)
          | ((with_reducible refine gate_builtin (b := .append) (xs := #[.tmp 49, .tmp 51]) rfl ?_); at_builtin; refine Kd.R_append Ses.rgKd (w0 := w) w.heap.size rfl (.tmp 49) (.tmp 51) 31 38 _ 80 rfl Tryd.underlying31 infG rfl (by decide) (by decide) u3 rs (true, ⟨.slice A1 nd c1, rfl⟩, ⟨.slice none 0 0, rfl⟩, 0, ⟨#[]⟩) [.bool true, .slice A1 nd c1, .slice none 0 0, .int .i64 0, .string ⟨#[]⟩] (fun _ => True) (fun k => False) ?aV ?aX ?aP ?aK (fun _ _ => trivial) ?aO ?aB ?aS ?aL ?_; (case aV => exact rfl); (case aX => first | exact rfl | (simp only [World.size_alloc, World.size_setCell]; exact rfl)); (case aP => exact Ses.rg_make _ _ _ _ _ _ _ _); (case aK => exact fun k hk => absurd hk id); (case aO => exact Kd.R_below HRow.out HW.out); (case aB => exact HB.out.trans (HW.out.mono HB.out.size)); (case aS => exact (HB.out.trans (HW.out.mono HB.out.size)).size); (case aL => (rw [HL.out]; omega)); intro v10 w10 ho hb hg hat; have HO10 := Lib.hid ho; have HB10 := Lib.hid hb; clear ho hb hg hat))
        go_roundw
        case measure => simp [intOf]; omega
        case rel =>
          refine ⟨j + 1, rs ++ [(true, ⟨.slice A1 nd c1, rfl⟩, ⟨.slice none 0 0, rfl⟩, 0, ⟨#[]⟩)], by go_num, by omega, HO10, HB10, Lib.hid (by rw [List.length_append, HL.out]; rfl), Lib.hid (Ses.good_snoc HG.out HL.out HP.out ?_)⟩
          have hgo : Ses.gotOf ⟨kd, size, num, pb, pc, flag, data, other⟩ = ⟨true, data, [], 0⟩ := by
            unfold Ses.gotOf
            rw [if_neg (by simp only; omega), if_neg (by simp only; omega)]
          rw [hgo]
          exact ⟨A1, c1, none, 0, rfl, by rw [HNd.out], rfl, rfl, rfl, rfl, by rw [← HNd.out]; exact hle1, Nat.le_refl _, HC1.out, Kd.C_nil _ _⟩
      · have t0k : decide (kd % 6 = 0) = false := decide_eq_false (by omega)
        have t1k : decide (kd % 6 = 1) = false := decide_eq_false (by omega)
        have t2k : decide (kd % 6 = 2) = false := decide_eq_false (by omega)
        have t3k : decide (kd % 6 = 3) = false := decide_eq_false (by omega)
        have t4k : decide (kd % 6 = 4) = false := decide_eq_false (by omega)
        have t5k : decide (kd % 6 = 5) = true := decide_eq_true (by omega)
        go_wp2_with (first
          | (go_at_call 53; (with_reducible refine (HSz.out _).mono ?_); rintro e w5 ⟨rfl, hb5⟩; have hq0 : ((wr.alloc (.cells #[.int .u8 kd, .int .u8 size, .int .u64 num, .bool pb, .bool pc, .int .u8 flag, .slice A1 nd c1, .slice A2 no c2] 70)).alloc (.cells #[.bool true, .slice none 0 0, .slice none 0 0, .int .i64 0, .string ⟨#[]⟩] 38)).heap[wr.heap.size]? = some (.cells #[.int .u8 kd, .int .u8 size, .int .u64 num, .bool pb, .bool pc, .int .u8 flag, .slice A1 nd c1, .slice A2 no c2] 70 (0, 0)) := xb_alloc (xb_new _ _); have hq1 : ((wr.alloc (.cells #[.int .u8 kd, .int .u8 size, .int .u64 num, .bool pb, .bool pc, .int .u8 flag, .slice A1 nd c1, .slice A2 no c2] 70)).alloc (.cells #[.bool true, .slice none 0 0, .slice none 0 0, .int .i64 0, .string ⟨#[]⟩] 38)).heap[wr.heap.size + 1]? = some (.cells #[.bool true, .slice none 0 0, .slice none 0 0, .int .i64 0, .string ⟨#[]⟩] 38 (0, 0)) := (by have h := xb_new (wr.alloc (.cells #[.int .u8 kd, .int .u8 size, .int .u64 num, .bool pb, .bool pc, .int .u8 flag, .slice A1 nd c1, .slice A2 no c2] 70)) (.cells #[.bool true, .slice none 0 0, .slice none 0 0, .int .i64 0, .string ⟨#[]⟩] 38); rw [World.size_alloc] at h; exact h); have kq0 := blk_bl hq0 hb5 (xb_lt hq0); have kq1 := blk_bl hq1 hb5 (xb_lt hq1); have q0 : w5.cell? ⟨wr.heap.size, 0, none⟩ = some (.int .u8 kd) := xb_cell kq0 0; have q5 : w5.cell? ⟨wr.heap.size, 5, none⟩ = some (.int .u8 flag) := xb_cell kq0 5; have q6 : w5.cell? ⟨wr.heap.size, 6, none⟩ = some (.slice A1 nd c1) := xb_cell kq0 6; have q7 : w5.cell? ⟨wr.heap.size, 7, none⟩ = some (.slice A2 no c2) := xb_cell kq0 7; have z0 : w5.cell? ⟨wr.heap.size + 1, 0, none⟩ = some (.bool true) := xb_cell kq1 0; have z1 : w5.cell? ⟨wr.heap.size + 1, 1, none⟩ = some (.slice none 0 0) := xb_cell kq1 1; have z2 : w5.cell? ⟨wr.heap.size + 1, 2, none⟩ = some (.slice none 0 0) := xb_cell kq1 2; have z3 : w5.cell? ⟨wr.heap.size + 1, 3, none⟩ = some (.int .i64 0) := xb_cell kq1 3; have z4 : w5.cell? ⟨wr.heap.size + 1, 4, none⟩ = some (.string ⟨#[]⟩) := xb_cell kq1 4; have f1 := blk_free kq1 1; have f2 := blk_free kq1 2; have f3 := blk_free kq1 3; have HK1 := Lib.hid kq1; have HS5 : Hid (wr.heap.size + 1 < w5.heap.size) := Lib.hid (xb_lt kq1); have HB5 : Hid (Below wr.heap.size wr w5) := Lib.hid ((below_alloc (below_alloc (Below.refl _ _) _) _).trans (hb5.mono (by rw [World.size_alloc, World.size_alloc]; omega))); have kw := xb_set kq1 1 (.slice A1 nd c1); have y0 : (w5.setCell ⟨wr.heap.size + 1, 1, none⟩ (.slice A1 nd c1)).cell? ⟨wr.heap.size + 1, 0, none⟩ = some (.bool true) := xb_cell kw 0; have y1 : (w5.setCell ⟨wr.heap.size + 1, 1, none⟩ (.slice A1 nd c1)).cell? ⟨wr.heap.size + 1, 1, none⟩ = some (.slice A1 nd c1) := xb_cell kw 1; have y2 : (w5.setCell ⟨wr.heap.size + 1, 1, none⟩ (.slice A1 nd c1)).cell? ⟨wr.heap.size + 1, 2, none⟩ = some (.slice none 0 0) := xb_cell kw 2; have y3 : (w5.setCell ⟨wr.heap.size + 1, 1, none⟩ (.slice A1 nd c1)).cell? ⟨wr.heap.size + 1, 3, none⟩ = some (.int .i64 0) := xb_cell kw 3; have y4 : (w5.setCell ⟨wr.heap.size + 1, 1, none⟩ (.slice A1 nd c1)).cell? ⟨wr.heap.size + 1, 4, none⟩ = some (.string ⟨#[]⟩) := xb_cell kw 4; have HW : Hid (Below wr.heap.size wr (w5.setCell ⟨wr.heap.size + 1, 1, none⟩ (.slice A1 nd c1))) := Lib.hid (HB5.out.setCell (Nat.le_succ _) _); clear kw; clear hq0 hq1 kq0 kq1 hb5)
          | ((with_reducible refine gate_builtin (b := .append) (xs := #[.tmp 49, .tmp 51]) rfl ?_); at_builtin; refine Kd.R_append Ses.rgKd (w0 := w) w.heap.size rfl (.tmp 49) (.tmp 51) 31 38 _ 80 rfl Tryd.underlying31 infG rfl (by decide) (by decide) u3 rs (true, ⟨.slice A1 nd c1, rfl⟩, ⟨.slice none 0 0, rfl⟩, 0, ⟨#[]⟩) [.bool true, .slice A1 nd c1, .slice none 0 0, .int .i64 0, .string ⟨#[]⟩] (fun _ => True) (fun k => False) ?aV ?aX ?aP ?aK (fun _ _ => trivial) ?aO ?aB ?aS ?aL ?_; (case aV => exact rfl); (case aX => first | exact rfl | (simp only [World.size_alloc, World.size_setCell]; exact rfl)); (case aP => exact Ses.rg_make _ _ _ _ _ _ _ _); (case aK => exact fun k hk => absurd hk id); (case aO => exact Kd.R_below HRow.out HW.out); (case aB => exact HB.out.trans (HW.out.mono HB.out.size)); (case aS => exact (HB.out.trans (HW.out.mono HB.out.size)).size); (case aL => (rw [HL.out]; omega)); intro v10 w10 ho hb hg hat; have HO10 := Lib.hid ho; have HB10 := Lib.hid hb; clear ho hb hg hat))
        go_roundw
        case measure => simp [intOf]; omega
        case rel =>
          refine ⟨j + 1, rs ++ [(true, ⟨.slice A1 nd c1, rfl⟩, ⟨.slice none 0 0, rfl⟩, 0, ⟨#[]⟩)], by go_num, by omega, HO10, HB10, Lib.hid (by rw [List.length_append, HL.out]; rfl), Lib.hid (Ses.good_snoc HG.out HL.out HP.out ?_)⟩
          have hgo : Ses.gotOf ⟨kd, size, num, pb, pc, flag, data, other⟩ = ⟨true, data, [], 0⟩ := by
            unfold Ses.gotOf
            rw [if_neg (by simp only; omega), if_neg (by simp only; omega)]
          rw [hgo]
          exact ⟨A1, c1, none, 0, rfl, by rw [HNd.out], rfl, rfl, rfl, rfl, by rw [← HNd.out]; exact hle1, Nat.le_refl _, HC1.out, Kd.C_nil _ _⟩
      · have t0k : decide (kd % 6 = 0) = false := decide_eq_false (by omega)
        have t1k : decide (kd % 6 = 1) = false := decide_eq_false (by omega)
        have t2k : decide (kd % 6 = 2) = true := decide_eq_true (by omega)
        have t3k : decide (kd % 6 = 3) = false := decide_eq_false (by omega)
        have t4k : decide (kd % 6 = 4) = false := decide_eq_false (by omega)
        have t5k : decide (kd % 6 = 5) = false := decide_eq_false (by omega)
        go_wp2_with (first
          | (go_at_call 53; (with_reducible refine (HSz.out _).mono ?_); rintro e w5 ⟨rfl, hb5⟩; have hq0 : ((wr.alloc (.cells #[.int .u8 kd, .int .u8 size, .int .u64 num, .bool pb, .bool pc, .int .u8 flag, .slice A1 nd c1, .slice A2 no c2] 70)).alloc (.cells #[.bool true, .slice none 0 0, .slice none 0 0, .int .i64 0, .string ⟨#[]⟩] 38)).heap[wr.heap.size]? = some (.cells #[.int .u8 kd, .int .u8 size, .int .u64 num, .bool pb, .bool pc, .int .u8 flag, .slice A1 nd c1, .slice A2 no c2] 70 (0, 0)) := xb_alloc (xb_new _ _); have hq1 : ((wr.alloc (.cells #[.int .u8 kd, .int .u8 size, .int .u64 num, .bool pb, .bool pc, .int .u8 flag, .slice A1 nd c1, .slice A2 no c2] 70)).alloc (.cells #[.bool true, .slice none 0 0, .slice none 0 0, .int .i64 0, .string ⟨#[]⟩] 38)).heap[wr.heap.size + 1]? = some (.cells #[.bool true, .slice none 0 0, .slice none 0 0, .int .i64 0, .string ⟨#[]⟩] 38 (0, 0)) := (by have h := xb_new (wr.alloc (.cells #[.int .u8 kd, .int .u8 size, .int .u64 num, .bool pb, .bool pc, .int .u8 flag, .slice A1 nd c1, .slice A2 no c2] 70)) (.cells #[.bool true, .slice none 0 0, .slice none 0 0, .int .i64 0, .string ⟨#[]⟩] 38); rw [World.size_alloc] at h; exact h); have kq0 := blk_bl hq0 hb5 (xb_lt hq0); have kq1 := blk_bl hq1 hb5 (xb_lt hq1); have q0 : w5.cell? ⟨wr.heap.size, 0, none⟩ = some (.int .u8 kd) := xb_cell kq0 0; have q5 : w5.cell? ⟨wr.heap.size, 5, none⟩ = some (.int .u8 flag) := xb_cell kq0 5; have q6 : w5.cell? ⟨wr.heap.size, 6, none⟩ = some (.slice A1 nd c1) := xb_cell kq0 6; have q7 : w5.cell? ⟨wr.heap.size, 7, none⟩ = some (.slice A2 no c2) := xb_cell kq0 7; have z0 : w5.cell? ⟨wr.heap.size + 1, 0, none⟩ = some (.bool true) := xb_cell kq1 0; have z1 : w5.cell? ⟨wr.heap.size + 1, 1, none⟩ = some (.slice none 0 0) := xb_cell kq1 1; have z2 : w5.cell? ⟨wr.heap.size + 1, 2, none⟩ = some (.slice none 0 0) := xb_cell kq1 2; have z3 : w5.cell? ⟨wr.heap.size + 1, 3, none⟩ = some (.int .i64 0) := xb_cell kq1 3; have z4 : w5.cell? ⟨wr.heap.size + 1, 4, none⟩ = some (.string ⟨#[]⟩) := xb_cell kq1 4; have f1 := blk_free kq1 1; have f2 := blk_free kq1 2; have f3 := blk_free kq1 3; have HK1 := Lib.hid kq1; have HS5 : Hid (wr.heap.size + 1 < w5.heap.size) := Lib.hid (xb_lt kq1); have HB5 : Hid (Below wr.heap.size wr w5) := Lib.hid ((below_alloc (below_alloc (Below.refl _ _) _) _).trans (hb5.mono (by rw [World.size_alloc, World.size_alloc]; omega))); have kw := xb_set kq1 3 (.int .i64 (Ses.toI nm)); have y0 : (w5.setCell ⟨wr.heap.size + 1, 3, none⟩ (.int .i64 (Ses.toI nm))).cell? ⟨wr.heap.size + 1, 0, none⟩ = some (.bool true) := xb_cell kw 0; have y1 : (w5.setCell ⟨wr.heap.size + 1, 3, none⟩ (.int .i64 (Ses.toI nm))).cell? ⟨wr.heap.size + 1, 1, none⟩ = some (.slice none 0 0) := xb_cell kw 1; have y2 : (w5.setCell ⟨wr.heap.size + 1, 3, none⟩ (.int .i64 (Ses.toI nm))).cell? ⟨wr.heap.size + 1, 2, none⟩ = some (.slice none 0 0) := xb_cell kw 2; have y3 : (w5.setCell ⟨wr.heap.size + 1, 3, none⟩ (.int .i64 (Ses.toI nm))).cell? ⟨wr.heap.size + 1, 3, none⟩ = some (.int .i64 (Ses.toI nm)) := xb_cell kw 3; have y4 : (w5.setCell ⟨wr.heap.size + 1, 3, none⟩ (.int .i64 (Ses.toI nm))).cell? ⟨wr.heap.size + 1, 4, none⟩ = some (.string ⟨#[]⟩) := xb_cell kw 4; have HW : Hid (Below wr.heap.size wr (w5.setCell ⟨wr.heap.size + 1, 3, none⟩ (.int .i64 (Ses.toI nm)))) := Lib.hid (HB5.out.setCell (Nat.le_succ _) _); clear kw; clear hq0 hq1 kq0 kq1 hb5)
          | ((with_reducible refine gate_builtin (b := .append) (xs := #[.tmp 49, .tmp 51]) rfl ?_); at_builtin; refine Kd.R_append Ses.rgKd (w0 := w) w.heap.size rfl (.tmp 49) (.tmp 51) 31 38 _ 80 rfl Tryd.underlying31 infG rfl (by decide) (by decide) u3 rs (true, ⟨.slice none 0 0, rfl⟩, ⟨.slice none 0 0, rfl⟩, Ses.toI nm, ⟨#[]⟩) [.bool true, .slice none 0 0, .slice none 0 0, .int .i64 (Ses.toI nm), .string ⟨#[]⟩] (fun _ => True) (fun k => False) ?aV ?aX ?aP ?aK (fun _ _ => trivial) ?aO ?aB ?aS ?aL ?_; (case aV => exact rfl); (case aX => first | exact rfl | (simp only [World.size_alloc, World.size_setCell]; exact rfl)); (case aP => exact Ses.rg_make _ _ _ _ _ _ _ _); (case aK => exact fun k hk => absurd hk id); (case aO => exact Kd.R_below HRow.out HW.out); (case aB => exact HB.out.trans (HW.out.mono HB.out.size)); (case aS => exact (HB.out.trans (HW.out.mono HB.out.size)).size); (case aL => (rw [HL.out]; omega)); intro v10 w10 ho hb hg hat; have HO10 := Lib.hid ho; have HB10 := Lib.hid hb; clear ho hb hg hat))
        go_roundw
        case measure => simp [intOf]; omega
        case rel =>
          refine ⟨j + 1, rs ++ [(true, ⟨.slice none 0 0, rfl⟩, ⟨.slice none 0 0, rfl⟩, Ses.toI nm, ⟨#[]⟩)], by go_num, by omega, HO10, HB10, Lib.hid (by rw [List.length_append, HL.out]; rfl), Lib.hid (Ses.good_snoc HG.out HL.out HP.out ?_)⟩
          have hgo : Ses.gotOf ⟨kd, size, num, pb, pc, flag, data, other⟩ = ⟨true, [], [], Ses.toI nm⟩ := by
            unfold Ses.gotOf
            rw [if_pos (by simp only; omega), HNm.out]
          rw [hgo]
          exact ⟨none, 0, none, 0, rfl, rfl, rfl, rfl, rfl, rfl, Nat.le_refl _, Nat.le_refl _, Kd.C_nil _ _, Kd.C_nil _ _⟩
      · have t0k : decide (kd % 6 = 0) = false := decide_eq_false (by omega)
        have t1k : decide (kd % 6 = 1) = false := decide_eq_false (by omega)
        have t2k : decide (kd % 6 = 2) = false := decide_eq_false (by omega)
        have t3k : decide (kd % 6 = 3) = true := decide_eq_true (by omega)
        have t4k : decide (kd % 6 = 4) = false := decide_eq_false (by omega)
        have t5k : decide (kd % 6 = 5) = false := decide_eq_false (by omega)
        go_wp2_with (first
          | (go_at_call 53; (with_reducible refine (HSz.out _).mono ?_); rintro e w5 ⟨rfl, hb5⟩; have hq0 : ((wr.alloc (.cells #[.int .u8 kd, .int .u8 size, .int .u64 num, .bool pb, .bool pc, .int .u8 flag, .slice A1 nd c1, .slice A2 no c2] 70)).alloc (.cells #[.bool true, .slice none 0 0, .slice none 0 0, .int .i64 0, .string ⟨#[]⟩] 38)).heap[wr.heap.size]? = some (.cells #[.int .u8 kd, .int .u8 size, .int .u64 num, .bool pb, .bool pc, .int .u8 flag, .slice A1 nd c1, .slice A2 no c2] 70 (0, 0)) := xb_alloc (xb_new _ _); have hq1 : ((wr.alloc (.cells #[.int .u8 kd, .int .u8 size, .int .u64 num, .bool pb, .bool pc, .int .u8 flag, .slice A1 nd c1, .slice A2 no c2] 70)).alloc (.cells #[.bool true, .slice none 0 0, .slice none 0 0, .int .i64 0, .string ⟨#[]⟩] 38)).heap[wr.heap.size + 1]? = some (.cells #[.bool true, .slice none 0 0, .slice none 0 0, .int .i64 0, .string ⟨#[]⟩] 38 (0, 0)) := (by have h := xb_new (wr.alloc (.cells #[.int .u8 kd, .int .u8 size, .int .u64 num, .bool pb, .bool pc, .int .u8 flag, .slice A1 nd c1, .slice A2 no c2] 70)) (.cells #[.bool true, .slice none 0 0, .slice none 0 0, .int .i64 0, .string ⟨#[]⟩] 38); rw [World.size_alloc] at h; exact h); have kq0 := blk_bl hq0 hb5 (xb_lt hq0); have kq1 := blk_bl hq1 hb5 (xb_lt hq1); have q0 : w5.cell? ⟨wr.heap.size, 0, none⟩ = some (.int .u8 kd) := xb_cell kq0 0; have q5 : w5.cell? ⟨wr.heap.size, 5, none⟩ = some (.int .u8 flag) := xb_cell kq0 5; have q6 : w5.cell? ⟨wr.heap.size, 6, none⟩ = some (.slice A1 nd c1) := xb_cell kq0 6; have q7 : w5.cell? ⟨wr.heap.size, 7, none⟩ = some (.slice A2 no c2) := xb_cell kq0 7; have z0 : w5.cell? ⟨wr.heap.size + 1, 0, none⟩ = some (.bool true) := xb_cell kq1 0; have z1 : w5.cell? ⟨wr.heap.size + 1, 1, none⟩ = some (.slice none 0 0) := xb_cell kq1 1; have z2 : w5.cell? ⟨wr.heap.size + 1, 2, none⟩ = some (.slice none 0 0) := xb_cell kq1 2; have z3 : w5.cell? ⟨wr.heap.size + 1, 3, none⟩ = some (.int .i64 0) := xb_cell kq1 3; have z4 : w5.cell? ⟨wr.heap.size + 1, 4, none⟩ = some (.string ⟨#[]⟩) := xb_cell kq1 4; have f1 := blk_free kq1 1; have f2 := blk_free kq1 2; have f3 := blk_free kq1 3; have HK1 := Lib.hid kq1; have HS5 : Hid (wr.heap.size + 1 < w5.heap.size) := Lib.hid (xb_lt kq1); have HB5 : Hid (Below wr.heap.size wr w5) := Lib.hid ((below_alloc (below_alloc (Below.refl _ _) _) _).trans (hb5.mono (by rw [World.size_alloc, World.size_alloc]; omega))); have kw := xb_set kq1 3 (.int .i64 (Ses.toI nm)); have y0 : (w5.setCell ⟨wr.heap.size + 1, 3, none⟩ (.int .i64 (Ses.toI nm))).cell? ⟨wr.heap.size + 1, 0, none⟩ = some (.bool true) := xb_cell kw 0; have y1 : (w5.setCell ⟨wr.heap.size + 1, 3, none⟩ (.int .i64 (Ses.toI nm))).cell? ⟨wr.heap.size + 1, 1, none⟩ = some (.slice none 0 0) := xb_cell kw 1; have y2 : (w5.setCell ⟨wr.heap.size + 1, 3, none⟩ (.int .i64 (Ses.toI nm))).cell? ⟨wr.heap.size + 1, 2, none⟩ = some (.slice none 0 0) := xb_cell kw 2; have y3 : (w5.setCell ⟨wr.heap.size + 1, 3, none⟩ (.int .i64 (Ses.toI nm))).cell? ⟨wr.heap.size + 1, 3, none⟩ = some (.int .i64 (Ses.toI nm)) := xb_cell kw 3; have y4 : (w5.setCell ⟨wr.heap.size + 1, 3, none⟩ (.int .i64 (Ses.toI nm))).cell? ⟨wr.heap.size + 1, 4, none⟩ = some (.string ⟨#[]⟩) := xb_cell kw 4; have HW : Hid (Below wr.heap.size wr (w5.setCell ⟨wr.heap.size + 1, 3, none⟩ (.int .i64 (Ses.toI nm)))) := Lib.hid (HB5.out.setCell (Nat.le_succ _) _); clear kw; clear hq0 hq1 kq0 kq1 hb5)
          | ((with_reducible refine gate_builtin (b := .append) (xs := #[.tmp 49, .tmp 51]) rfl ?_); at_builtin; refine Kd.R_append Ses.rgKd (w0 := w) w.heap.size rfl (.tmp 49) (.tmp 51) 31 38 _ 80 rfl Tryd.underlying31 infG rfl (by decide) (by decide) u3 rs (true, ⟨.slice none 0 0, rfl⟩, ⟨.slice none 0 0, rfl⟩, Ses.toI nm, ⟨#[]⟩) [.bool true, .slice none 0 0, .slice none 0 0, .int .i64 (Ses.toI nm), .string ⟨#[]⟩] (fun _ => True) (fun k => False) ?aV ?aX ?aP ?aK (fun _ _ => trivial) ?aO ?aB ?aS ?aL ?_; (case aV => exact rfl); (case aX => first | exact rfl | (simp only [World.size_alloc, World.size_setCell]; exact rfl)); (case aP => exact Ses.rg_make _ _ _ _ _ _ _ _); (case aK => exact fun k hk => absurd hk id); (case aO => exact Kd.R_below HRow.out HW.out); (case aB => exact HB.out.trans (HW.out.mono HB.out.size)); (case aS => exact (HB.out.trans (HW.out.mono HB.out.size)).size); (case aL => (rw [HL.out]; omega)); intro v10 w10 ho hb hg hat; have HO10 := Lib.hid ho; have HB10 := Lib.hid hb; clear ho hb hg hat))
        go_roundw
        case measure => simp [intOf]; omega
        case rel =>
          refine ⟨j + 1, rs ++ [(true, ⟨.slice none 0 0, rfl⟩, ⟨.slice none 0 0, rfl⟩, Ses.toI nm, ⟨#[]⟩)], by go_num, by omega, HO10, HB10, Lib.hid (by rw [List.length_append, HL.out]; rfl), Lib.hid (Ses.good_snoc HG.out HL.out HP.out ?_)⟩
          have hgo : Ses.gotOf ⟨kd, size, num, pb, pc, flag, data, other⟩ = ⟨true, [], [], Ses.toI nm⟩ := by
            unfold Ses.gotOf
            rw [if_pos (by simp only; omega), HNm.out]
          rw [hgo]
          exact ⟨none, 0, none, 0, rfl, rfl, rfl, rfl, rfl, rfl, Nat.le_refl _, Nat.le_refl _, Kd.C_nil _ _, Kd.C_nil _ _⟩
      · have t0k : decide (kd % 6 = 0) = false := decide_eq_false (by omega)
        have t1k : decide (kd % 6 = 1) = false := decide_eq_false (by omega)
        have t2k : decide (kd % 6 = 2) = false := decide_eq_false (by omega)
        have t3k : decide (kd % 6 = 3) = false := decide_eq_false (by omega)
        have t4k : decide (kd % 6 = 4) = true := decide_eq_true (by omega)
        have t5k : decide (kd % 6 = 5) = false := decide_eq_false (by omega)
        go_wp2_with (go_at_call 53; (with_reducible refine (HSz.out _).mono ?_); rintro e w5 ⟨rfl, hb5⟩; have hq0 : ((wr.alloc (.cells #[.int .u8 kd, .int .u8 size, .int .u64 num, .bool pb, .bool pc, .int .u8 flag, .slice A1 nd c1, .slice A2 no c2] 70)).alloc (.cells #[.bool true, .slice none 0 0, .slice none 0 0, .int .i64 0, .string ⟨#[]⟩] 38)).heap[wr.heap.size]? = some (.cells #[.int .u8 kd, .int .u8 size, .int .u64 num, .bool pb, .bool pc, .int .u8 flag, .slice A1 nd c1, .slice A2 no c2] 70 (0, 0)) := xb_alloc (xb_new _ _); have hq1 : ((wr.alloc (.cells #[.int .u8 kd, .int .u8 size, .int .u64 num, .bool pb, .bool pc, .int .u8 flag, .slice A1 nd c1, .slice A2 no c2] 70)).alloc (.cells #[.bool true, .slice none 0 0, .slice none 0 0, .int .i64 0, .string ⟨#[]⟩] 38)).heap[wr.heap.size + 1]? = some (.cells #[.bool true, .slice none 0 0, .slice none 0 0, .int .i64 0, .string ⟨#[]⟩] 38 (0, 0)) := (by have h := xb_new (wr.alloc (.cells #[.int .u8 kd, .int .u8 size, .int .u64 num, .bool pb, .bool pc, .int .u8 flag, .slice A1 nd c1, .slice A2 no c2] 70)) (.cells #[.bool true, .slice none 0 0, .slice none 0 0, .int .i64 0, .string ⟨#[]⟩] 38); rw [World.size_alloc] at h; exact h); have kq0 := blk_bl hq0 hb5 (xb_lt hq0); have kq1 := blk_bl hq1 hb5 (xb_lt hq1); have q0 : w5.cell? ⟨wr.heap.size, 0, none⟩ = some (.int .u8 kd) := xb_cell kq0 0; have q5 : w5.cell? ⟨wr.heap.size, 5, none⟩ = some (.int .u8 flag) := xb_cell kq0 5; have q6 : w5.cell? ⟨wr.heap.size, 6, none⟩ = some (.slice A1 nd c1) := xb_cell kq0 6; have q7 : w5.cell? ⟨wr.heap.size, 7, none⟩ = some (.slice A2 no c2) := xb_cell kq0 7; have z0 : w5.cell? ⟨wr.heap.size + 1, 0, none⟩ = some (.bool true) := xb_cell kq1 0; have z1 : w5.cell? ⟨wr.heap.size + 1, 1, none⟩ = some (.slice none 0 0) := xb_cell kq1 1; have z2 : w5.cell? ⟨wr.heap.size + 1, 2, none⟩ = some (.slice none 0 0) := xb_cell kq1 2; have z3 : w5.cell? ⟨wr.heap.size + 1, 3, none⟩ = some (.int .i64 0) := xb_cell kq1 3; have z4 : w5.cell? ⟨wr.heap.size + 1, 4, none⟩ = some (.string ⟨#[]⟩) := xb_cell kq1 4; have f1 := blk_free kq1 1; have f2 := blk_free kq1 2; have f3 := blk_free kq1 3; have HK1 := Lib.hid kq1; have HS5 : Hid (wr.heap.size + 1 < w5.heap.size) := Lib.hid (xb_lt kq1); have HB5 : Hid (Below wr.heap.size wr w5) := Lib.hid ((below_alloc (below_alloc (Below.refl _ _) _) _).trans (hb5.mono (by rw [World.size_alloc, World.size_alloc]; omega))); skip; clear hq0 hq1 kq0 kq1 hb5)
        have Hu5 : w5.drew.cell? ⟨wr.heap.size, 5, none⟩ = some (.int .u8 flag) := q5
        have Hu6 : w5.drew.cell? ⟨wr.heap.size, 6, none⟩ = some (.slice A1 nd c1) := q6
        have Hu7 : w5.drew.cell? ⟨wr.heap.size, 7, none⟩ = some (.slice A2 no c2) := q7
        have hz1 : w5.drew.cell? ⟨wr.heap.size + 1, 1, none⟩ = some (.slice none 0 0) := z1
        have hf1 : w5.drew.frozen? ⟨wr.heap.size + 1, 1, none⟩ = false := f1
        have HKu : Hid (w5.drew.heap[wr.heap.size + 1]? = some (.cells #[.bool true, .slice none 0 0, .slice none 0 0, .int .i64 0, .string ⟨#[]⟩] 38 (0, 0))) := HK1
        have HBu : Hid (Below wr.heap.size wr w5.drew) := Lib.hid (below_drew HB5.out)
        have hne : ¬ wr.heap.size = wr.heap.size + 1 := by omega
        clear z0 z1 z2 z3 z4 f1 f2 f3
        refine wp_region_noPanic ?_
        refine wp_region_held_drew (S := fun w' => w'.cell? ⟨wr.heap.size, 5, none⟩ = some (.int .u8 flag) ∧ w'.cell? ⟨wr.heap.size, 6, none⟩ = some (.slice A1 nd c1) ∧ w'.cell? ⟨wr.heap.size, 7, none⟩ = some (.slice A2 no c2)) (by kernel_rfl) ⟨q5, q6, q7⟩ (fun hHeld => ?_)
        generalize w5.drew = u0 at *
        refine wpAnyH_take (i := 0) (v := ?_) rfl (by kernel_rfl) (by kernel_rfl) (by kernel_rfl) (fun _ _ _ h => h) (Or.inl ⟨by rfl, ?_⟩) (by assumption) ?_
        rotate_left
        · intro w hSw
          obtain ⟨x5, x6, x7⟩ := hSw
          go_simp
          try (with_reducible rfl)
        try simp only [Act.put, List.getElem_toArray, List.getElem_cons_succ, List.getElem_cons_zero, List.setIfInBounds_toArray, List.set_cons_zero, List.set_cons_succ]
        refine wpAnyH_take (i := 1) (v := ?_) rfl (by kernel_rfl) (by kernel_rfl) (by kernel_rfl) (fun _ _ _ h => h) (Or.inl ⟨by rfl, ?_⟩) (by assumption) ?_
        rotate_left
        · intro w hSw
          obtain ⟨x5, x6, x7⟩ := hSw
          go_simp
          try (with_reducible rfl)
        try simp only [Act.put, List.getElem_toArray, List.getElem_cons_succ, List.getElem_cons_zero, List.setIfInBounds_toArray, List.set_cons_zero, List.set_cons_succ]
        refine wpAnyH_take (i := 2) (v := ?_) rfl (by kernel_rfl) (by kernel_rfl) (by kernel_rfl) (fun _ _ _ h => h) (Or.inl ⟨by rfl, ?_⟩) (by assumption) ?_
        rotate_left
        · intro w hSw
          obtain ⟨x5, x6, x7⟩ := hSw
          go_simp
          try (with_reducible rfl)
        try simp only [Act.put, List.getElem_toArray, List.getElem_cons_succ, List.getElem_cons_zero, List.setIfInBounds_toArray, List.set_cons_zero, List.set_cons_succ]
        refine wpAnyH_take (i := 3) (v := ?_) rfl (by kernel_rfl) (by kernel_rfl) (by kernel_rfl) (fun _ _ _ h => h) (Or.inl ⟨by rfl, ?_⟩) (by assumption) ?_
        rotate_left
        · intro w hSw
          obtain ⟨x5, x6, x7⟩ := hSw
          go_simp
          try (with_reducible rfl)
        try simp only [Act.put, List.getElem_toArray, List.getElem_cons_succ, List.getElem_cons_zero, List.setIfInBounds_toArray, List.set_cons_zero, List.set_cons_succ]
        refine wpAnyH_take (i := 4) (v := ?_) rfl (by kernel_rfl) (by kernel_rfl) (by kernel_rfl) (fun _ _ _ h => h) (Or.inl ⟨by rfl, ?_⟩) (by assumption) ?_
        rotate_left
        · intro w hSw
          obtain ⟨x5, x6, x7⟩ := hSw
          go_simp
          try (with_reducible rfl)
        try simp only [Act.put, List.getElem_toArray, List.getElem_cons_succ, List.getElem_cons_zero, List.setIfInBounds_toArray, List.set_cons_zero, List.set_cons_succ]
        refine wpAnyH_take (i := 5) (v := ?_) rfl (by kernel_rfl) (by kernel_rfl) (by kernel_rfl) (fun _ _ _ h => h) (Or.inl ⟨by rfl, ?_⟩) (by assumption) ?_
        rotate_left
        · intro w hSw
          obtain ⟨x5, x6, x7⟩ := hSw
          go_simp
          try (with_reducible rfl)
        try simp only [Act.put, List.getElem_toArray, List.getElem_cons_succ, List.getElem_cons_zero, List.setIfInBounds_toArray, List.set_cons_zero, List.set_cons_succ]
        refine wpAnyH_take (i := 6) (v := ?_) rfl (by kernel_rfl) (by kernel_rfl) (by kernel_rfl) (fun _ _ _ h => h) (Or.inl ⟨by rfl, ?_⟩) (by assumption) ?_
        rotate_left
        · intro w hSw
          obtain ⟨x5, x6, x7⟩ := hSw
          go_simp
          try (with_reducible rfl)
        try simp only [Act.put, List.getElem_toArray, List.getElem_cons_succ, List.getElem_cons_zero, List.setIfInBounds_toArray, List.set_cons_zero, List.set_cons_succ]
        refine wpAnyH_take (i := 7) (v := ?_) rfl (by kernel_rfl) (by kernel_rfl) (by kernel_rfl) (fun _ _ _ h => h) (Or.inl ⟨by rfl, ?_⟩) (by assumption) ?_
        rotate_left
        · intro w hSw
          obtain ⟨x5, x6, x7⟩ := hSw
          go_simp
          try (with_reducible rfl)
        try simp only [Act.put, List.getElem_toArray, List.getElem_cons_succ, List.getElem_cons_zero, List.setIfInBounds_toArray, List.set_cons_zero, List.set_cons_succ]
        refine wpAnyH_ready (rs := [8]) (by kernel_rfl) (by simp) ?_
        refine AllReadyH.cons (o := _) rfl (fun K hK => ?_) ?_
        · go_simp
          have g5_1 := (set_far (i := 1) (u := .slice A1 nd c1) hne).trans Hu5
          have g6_1 := (set_far (i := 1) (u := .slice A1 nd c1) hne).trans Hu6
          have g7_1 := (set_far (i := 1) (u := .slice A1 nd c1) hne).trans Hu7
          have kk1 := xb_set HKu.out 1 (.slice A1 nd c1)
          refine hK.out _ _ ⟨g5_1, g6_1, g7_1⟩ (fun hHeld => ?_)
          clear hK K
          try simp only [Act.put, List.getElem_toArray, List.getElem_cons_succ, List.getElem_cons_zero, List.setIfInBounds_toArray, List.set_cons_zero, List.set_cons_succ]
          have z2 : (u0.setCell ⟨wr.heap.size + 1, 1, none⟩ (.slice A1 nd c1)).cell? ⟨wr.heap.size + 1, 2, none⟩ = some (.slice none 0 0) := xb_cell kk1 2
          have f2 := blk_free kk1 2
          refine wpAnyH_take (i := 9) (v := ?_) rfl (by kernel_rfl) (by kernel_rfl) (by kernel_rfl) (fun _ _ _ h => h) (Or.inl ⟨by rfl, ?_⟩) (by assumption) ?_
          rotate_left
          · intro w hSw
            obtain ⟨x5, x6, x7⟩ := hSw
            go_simp
            try (with_reducible rfl)
          try simp only [Act.put, List.getElem_toArray, List.getElem_cons_succ, List.getElem_cons_zero, List.setIfInBounds_toArray, List.set_cons_zero, List.set_cons_succ]
          refine wpAnyH_ready (rs := [10]) (by kernel_rfl) (by simp) ?_
          refine AllReadyH.cons (o := _) rfl (fun K hK => ?_) ?_
          · go_simp
            have g5_2 := (set_far (i := 2) (u := .slice A2 no c2) hne).trans g5_1
            have g6_2 := (set_far (i := 2) (u := .slice A2 no c2) hne).trans g6_1
            have g7_2 := (set_far (i := 2) (u := .slice A2 no c2) hne).trans g7_1
            have kk2 := xb_set kk1 2 (.slice A2 no c2)
            refine hK.out _ _ ⟨g5_2, g6_2, g7_2⟩ (fun hHeld => ?_)
            clear hK K
            try simp only [Act.put, List.getElem_toArray, List.getElem_cons_succ, List.getElem_cons_zero, List.setIfInBounds_toArray, List.set_cons_zero, List.set_cons_succ]
            have z3 : ((u0.setCell ⟨wr.heap.size + 1, 1, none⟩ (.slice A1 nd c1)).setCell ⟨wr.heap.size + 1, 2, none⟩ (.slice A2 no c2)).cell? ⟨wr.heap.size + 1, 3, none⟩ = some (.int .i64 0) := xb_cell kk2 3
            have f3 := blk_free kk2 3
            refine wpAnyH_take (i := 11) (v := ?_) rfl (by kernel_rfl) (by kernel_rfl) (by kernel_rfl) (fun _ _ _ h => h) (Or.inl ⟨by rfl, ?_⟩) (by assumption) ?_
            rotate_left
            · intro w hSw
              obtain ⟨x5, x6, x7⟩ := hSw
              go_simp
              try (with_reducible rfl)
            try simp only [Act.put, List.getElem_toArray, List.getElem_cons_succ, List.getElem_cons_zero, List.setIfInBounds_toArray, List.set_cons_zero, List.set_cons_succ]
            refine wpAnyH_ready (rs := [12]) (by kernel_rfl) (by simp) ?_
            refine AllReadyH.cons (o := _) rfl (fun K hK => ?_) ?_
            · go_simp
              have g5_3 := (set_far (i := 3) (u := .int .i64 flag) hne).trans g5_2
              have g6_3 := (set_far (i := 3) (u := .int .i64 flag) hne).trans g6_2
              have g7_3 := (set_far (i := 3) (u := .int .i64 flag) hne).trans g7_2
              have kk3 := xb_set kk2 3 (.int .i64 flag)
              refine hK.out _ _ ⟨g5_3, g6_3, g7_3⟩ (fun hHeld => ?_)
              clear hK K
              try simp only [Act.put, List.getElem_toArray, List.getElem_cons_succ, List.getElem_cons_zero, List.setIfInBounds_toArray, List.set_cons_zero, List.set_cons_succ]
              refine wpAnyH_done (by kernel_rfl) ?_ _
              refine NoPanic.normal ?_
              have y0 : (((u0.setCell ⟨wr.heap.size + 1, 1, none⟩ (.slice A1 nd c1)).setCell ⟨wr.heap.size + 1, 2, none⟩ (.slice A2 no c2)).setCell ⟨wr.heap.size + 1, 3, none⟩ (.int .i64 flag)).cell? ⟨wr.heap.size + 1, 0, none⟩ = some (.bool true) := xb_cell kk3 0
              have y1 : (((u0.setCell ⟨wr.heap.size + 1, 1, none⟩ (.slice A1 nd c1)).setCell ⟨wr.heap.size + 1, 2, none⟩ (.slice A2 no c2)).setCell ⟨wr.heap.size + 1, 3, none⟩ (.int .i64 flag)).cell? ⟨wr.heap.size + 1, 1, none⟩ = some (.slice A1 nd c1) := xb_cell kk3 1
              have y2 : (((u0.setCell ⟨wr.heap.size + 1, 1, none⟩ (.slice A1 nd c1)).setCell ⟨wr.heap.size + 1, 2, none⟩ (.slice A2 no c2)).setCell ⟨wr.heap.size + 1, 3, none⟩ (.int .i64 flag)).cell? ⟨wr.heap.size + 1, 2, none⟩ = some (.slice A2 no c2) := xb_cell kk3 2
              have y3 : (((u0.setCell ⟨wr.heap.size + 1, 1, none⟩ (.slice A1 nd c1)).setCell ⟨wr.heap.size + 1, 2, none⟩ (.slice A2 no c2)).setCell ⟨wr.heap.size + 1, 3, none⟩ (.int .i64 flag)).cell? ⟨wr.heap.size + 1, 3, none⟩ = some (.int .i64 flag) := xb_cell kk3 3
              have y4 : (((u0.setCell ⟨wr.heap.size + 1, 1, none⟩ (.slice A1 nd c1)).setCell ⟨wr.heap.size + 1, 2, none⟩ (.slice A2 no c2)).setCell ⟨wr.heap.size + 1, 3, none⟩ (.int .i64 flag)).cell? ⟨wr.heap.size + 1, 4, none⟩ = some (.string ⟨#[]⟩) := xb_cell kk3 4
              have HW : Hid (Below wr.heap.size wr (((u0.setCell ⟨wr.heap.size + 1, 1, none⟩ (.slice A1 nd c1)).setCell ⟨wr.heap.size + 1, 2, none⟩ (.slice A2 no c2)).setCell ⟨wr.heap.size + 1, 3, none⟩ (.int .i64 flag))) := Lib.hid (((HBu.out.setCell (Nat.le_succ _) _).setCell (Nat.le_succ _) _).setCell (Nat.le_succ _) _)
              clear kk1 kk2 kk3 hHeld
              go_wp2_with ((with_reducible refine gate_builtin (b := .append) (xs := #[.tmp 49, .tmp 51]) rfl ?_); at_builtin; refine Kd.R_append Ses.rgKd (w0 := w) w.heap.size rfl (.tmp 49) (.tmp 51) 31 38 _ 80 rfl Tryd.underlying31 infG rfl (by decide) (by decide) u3 rs (true, ⟨.slice A1 nd c1, rfl⟩, ⟨.slice A2 no c2, rfl⟩, flag, ⟨#[]⟩) [.bool true, .slice A1 nd c1, .slice A2 no c2, .int .i64 flag, .string ⟨#[]⟩] (fun _ => True) (fun k => False) ?aV ?aX ?aP ?aK (fun _ _ => trivial) ?aO ?aB ?aS ?aL ?_; (case aV => exact rfl); (case aX => first | exact rfl | (simp only [World.size_alloc, World.size_setCell]; exact rfl)); (case aP => exact Ses.rg_make _ _ _ _ _ _ _ _); (case aK => exact fun k hk => absurd hk id); (case aO => exact Kd.R_below HRow.out HW.out); (case aB => exact HB.out.trans (HW.out.mono HB.out.size)); (case aS => exact (HB.out.trans (HW.out.mono HB.out.size)).size); (case aL => (rw [HL.out]; omega)); intro v10 w10 ho hb hg hat; have HO10 := Lib.hid ho; have HB10 := Lib.hid hb; clear ho hb hg hat)
              go_roundw
              case measure => simp [intOf]; omega
              case rel =>
                refine ⟨j + 1, rs ++ [(true, ⟨.slice A1 nd c1, rfl⟩, ⟨.slice A2 no c2, rfl⟩, flag, ⟨#[]⟩)], by go_num, by omega, HO10, HB10, Lib.hid (by rw [List.length_append, HL.out]; rfl), Lib.hid (Ses.good_snoc HG.out HL.out HP.out ?_)⟩
                have hgo : Ses.gotOf ⟨kd, size, num, pb, pc, flag, data, other⟩ = ⟨true, data, other, flag⟩ := by
                  unfold Ses.gotOf
                  rw [if_neg (by simp only; omega), if_pos (by simp only; omega)]
                rw [hgo]
                exact ⟨A1, c1, A2, c2, rfl, by rw [HNd.out], by rw [HNo.out], rfl, rfl, rfl, by rw [← HNd.out]; exact hle1, by rw [← HNo.out]; exact hle2, HC1.out, HC2.out⟩
            exact AllReadyH.nil
          exact AllReadyH.nil
        exact AllReadyH.nil
    · have hjn : j = n := by omega
      have t2 : decide ((j : Int) < (n : Int)) = false := decide_eq_false (by omega)
      obtain ⟨B, c, e3, hlc, hCr⟩ := Kd.R_reads HRow.out
      have hgC := Ses.rg_gt (gs := ps.map Ses.gotOf) (by rw [List.length_map, HL.out, ← HN.out]; exact hjn) hCr HB.out (fun i x g hx hg => by
        rw [List.getElem?_map] at hg
        obtain ⟨q, hq, rfl⟩ := Option.map_eq_some_iff.1 hg
        exact HG.out i x q hx hq)
      rw [List.length_map, ← HN.out] at hgC
      rw [HL.out, hjn] at e3 hlc
      have HLc := Lib.hid hlc
      clear hlc
      subst e3
      have HE := Lib.hid hgC
      clear hgC hCr
      go_wp2
      go_ret
      exact ⟨B, c, rfl, HLc.out, HE.out, HB.out⟩
end Go.Proofs.YtdnahdddkagfhaaDoor.X
