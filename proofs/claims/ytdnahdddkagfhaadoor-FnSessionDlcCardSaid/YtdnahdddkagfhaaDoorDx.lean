/- FnSessionDlc: a DLC gives its CLR, but no more bytes than its number tells. -/
import Derived.Test.YtdnahdddkagfhaaDoorCx
import Derived.Test.YtdnahdddkagfhaaDoorDy
import Derived.Test.YtdnahdddkagfhaaDoorTb
namespace Go.Proofs.YtdnahdddkagfhaaDoor.X
open Go.RowKit Go.Proofs.YtdnahdddkagfhaaDoorW.PrintWords Go.Proofs.YtdnahdddkagfhaaDoorW.PrintLast Go.Proofs.YtdnahdddkagfhaaDoorW.PrintMore
attribute [local go_sem] setCell_drewN alloc_drewN
set_option linter.unusedVariables false
set_option linter.unusedSimpArgs false
namespace Ses
/-- One step that goes well, its block just made, and what it gives laid open. -/
theorem get_alone (s : GS) (o : Gt) (ho : o.ok = true) (l : List Int) (k : Nat) (big : Bool) (hlm : l.length ≤ 1000000) (hk : k ≤ l.length)
    (HGot : ∀ (W : World) (b g c : Nat), RS W b g c l 0 big 64 → Calls Tryd.prog 48 #[.pointer (some ⟨b, 0, none⟩), .agg #[.int .i64 s.kind, .int .i64 s.size, .bool s.sb, .bool s.sc]] W (GotQ b g c l k big 64 o W))
    (a : Addr) (cI : Nat) (w : World) (hin : Kd.C (Kd.int .u8) w (some a) l.length l) :
    Calls Tryd.prog 18 #[.slice (some a) l.length cI, .slice (some ⟨w.heap.size, 0, none⟩) 1 1, .bool big] (w.alloc (.cells #[.int .i64 s.kind, .int .i64 s.size, .bool s.sb, .bool s.sc] 35)) fun e w' => ∃ g c A cA B cB X cX, e = .returned (.tuple #[.slice (some ⟨g, 0, none⟩) 1 c, .slice X (l.drop k).length cX]) ∧ w'.cell? ⟨g, 0, none⟩ = some (.bool true) ∧ w'.cell? ⟨g, 1, none⟩ = some (.slice A o.data.length cA) ∧ w'.cell? ⟨g, 2, none⟩ = some (.slice B o.other.length cB) ∧ w'.cell? ⟨g, 3, none⟩ = some (.int .i64 o.num) ∧ o.data.length ≤ cA ∧ Kd.C (Kd.int .u8) w' A o.data.length o.data ∧ (l.drop k).length ≤ cX ∧ Kd.C (Kd.int .u8) w' X (l.drop k).length (l.drop k) ∧ Below w.heap.size w w' := by
  have hz : w.heap.size ≤ (w.alloc (.cells #[.int .i64 s.kind, .int .i64 s.size, .bool s.sb, .bool s.sc] 35)).heap.size := by rw [World.size_alloc]; omega
  have hget := get_good s o ho l k big hlm hk HGot _ a cI (Kd.C_below hin (below_alloc (Below.refl _ _) (.cells #[.int .i64 s.kind, .int .i64 s.size, .bool s.sb, .bool s.sc] 35))) w.heap.size (xb_new w _)
  refine hget.mono ?_
  rintro e w' ⟨v, v2, rfl, hR, hR2, hb⟩
  obtain ⟨g, c, A, cA, B, cB, rfl, y0, y1, y2, y3, hle, hCA⟩ := gt_one hR
  obtain ⟨X, cX, rfl, hle2, hCX, -, -⟩ := R_slots hR2
  rw [ho] at y0
  exact ⟨g, c, A, cA, B, cB, X, cX, rfl, y0, y1, y2, y3, hle, hCA, hle2, hCX, (below_alloc (Below.refl _ _) _).trans (hb.mono hz)⟩
end Ses
def laws_FnSessionDlc.f (data : List Int) (n : Int) (more : List Int) : Option Bool := if 0 ≤ n ∧ n ≤ 65535 ∧ ((∀ x ∈ data, 0 ≤ x ∧ x ≤ 255) ∧ data.length ≤ 140737488351232) ∧ (∀ x ∈ more, 0 ≤ x ∧ x ≤ 255) ∧ more.length ≤ 140737488351232 then some true else none
set_option maxHeartbeats 16000000 in
set_option maxRecDepth 100000 in
theorem laws_FnSessionDlc.calls (A0 : Option Addr) (c0 : Nat) (data : List Int) (n0 : Int) (A1 : Option Addr) (c1 : Nat) (more : List Int) (r : Bool) (w : World) (hr0 : Kd.C (Kd.int .u8) w A0 data.length data) (hc0 : data.length ≤ c0) (hr1 : Kd.C (Kd.int .u8) w A1 more.length more) (hc1 : more.length ≤ c1) (h : laws_FnSessionDlc.f data n0 more = some r) :
    Calls Tryd.prog 10 #[.slice A0 data.length c0, .int .u16 n0, .slice A1 more.length c1] w fun e w' => e = .returned (.bool r) ∧ Below w.heap.size w w' := by
  unfold laws_FnSessionDlc.f at h
  split at h
  · rename_i hsz
    obtain ⟨k0, k1, ⟨hby, z2⟩, hbm, z3⟩ := hsz
    obtain rfl := Option.some.inj h
    clear h
    have HR0 := Lib.hid hr0
    have HR1 := Lib.hid hr1
    clear hr0 hr1
    by_cases g0 : (data.length : Int) > 2147483647
    · have t0 : decide ((data.length : Int) > 2147483647) = true := decide_eq_true g0
      clear g0
      go_enter Tryd.func10, Tryd.ntmps10
      go_wp2
      go_ret
      exact ⟨rfl, Below.refl _ _⟩
    have t0 : decide ((data.length : Int) > 2147483647) = false := decide_eq_false g0
    by_cases g1 : (more.length : Int) > 2147483647
    · have t1 : decide ((more.length : Int) > 2147483647) = true := decide_eq_true g1
      clear g0 g1
      go_enter Tryd.func10, Tryd.ntmps10
      go_wp2
      go_ret
      exact ⟨rfl, Below.refl _ _⟩
    have t1 : decide ((more.length : Int) > 2147483647) = false := decide_eq_false g1
    by_cases g2 : (data.length : Int) > 600
    · have t2 : decide ((data.length : Int) > 600) = true := decide_eq_true g2
      clear g0 g1 g2
      go_enter Tryd.func10, Tryd.ntmps10
      go_wp2_with (go_at_call 14; (with_reducible refine (sessionLive_calls _).mono ?_); rintro e w3 ⟨rfl, hb⟩)
      go_ret
      exact ⟨rfl, hb⟩
    have t2 : decide ((data.length : Int) > 600) = false := decide_eq_false g2
    by_cases g3 : (more.length : Int) > 600
    · have t3 : decide ((more.length : Int) > 600) = true := decide_eq_true g3
      clear g0 g1 g2 g3
      go_enter Tryd.func10, Tryd.ntmps10
      go_wp2_with (go_at_call 14; (with_reducible refine (sessionLive_calls _).mono ?_); rintro e w3 ⟨rfl, hb⟩)
      go_ret
      exact ⟨rfl, hb⟩
    have t3 : decide ((more.length : Int) > 600) = false := decide_eq_false g3
    have hd : data.length ≤ 600 := by omega
    have hm : more.length ≤ 600 := by omega
    clear g0 g1 g2 g3
    have inf5 : (Tryd.prog.info? 5).map (fun i => (i.zero, i.size, i.bytes)) = some (some (.int .u8 0), 1, 1) := by kernel_rfl
    obtain ⟨n, rfl⟩ : ∃ n : Nat, n0 = (n : Int) := ⟨n0.toNat, by omega⟩
    obtain ⟨m, hmm⟩ : ∃ m, m = min data.length n := ⟨_, rfl⟩
    have hmin : min (data.length : Int) (n : Int) = (m : Int) := by omega
    have hml : m ≤ data.length := by omega
    have htk : data.take n = data.take m := by
      by_cases hx : n ≤ data.length
      · rw [show m = n by omega]
      · rw [List.take_of_length_le (by omega), List.take_of_length_le (by omega)]
    have hlk : (data.take m).length = m := by rw [List.length_take]; omega
    obtain ⟨p, hp⟩ : ∃ p, p = Dg.packed (n : Int) := ⟨_, rfl⟩
    have hpl : p.length ≤ 9 := by rw [hp]; exact Dg.headB_len true n
    have hpp : 0 < p.length := by rw [hp]; unfold Dg.packed; simp
    have hpb : ∀ y ∈ p, 0 ≤ y ∧ y ≤ 255 := by rw [hp]; exact Dg.packed_byt _
    obtain ⟨q, hq⟩ : ∃ q, q = if 0 < n then Dg.clrB false 64 data else [] := ⟨_, rfl⟩
    have hql : q.length ≤ 6002 := by
      rw [hq]
      split
      · have := Dg.clrB_len false 64 (by omega) data; omega
      · simp
    have hqb : ∀ y ∈ q, 0 ≤ y ∧ y ≤ 255 := by
      rw [hq]
      split
      · exact Dg.clrB_byt false 64 (by omega) data hby
      · simp
    obtain ⟨l, hl⟩ : ∃ l, l = p ++ q ++ more := ⟨_, rfl⟩
    have hlb : ∀ y ∈ l, 0 ≤ y ∧ y ≤ 255 := by
      intro y hy
      rw [hl, List.append_assoc, List.mem_append, List.mem_append] at hy
      rcases hy with hy | hy | hy
      · exact hpb y hy
      · exact hqb y hy
      · exact hbm y hy
    have hll : l.length = p.length + q.length + more.length := by rw [hl, List.length_append, List.length_append]
    have hdr : l.drop (p.length + q.length) = more := by rw [hl, ← List.length_append, List.drop_left]
    have hgot := fun (W : World) (b g c : Nat) (h : Ses.RS W b g c l 0 false 64) => got_dlc W b g c l 0 (p.length + q.length) false 64 0 false false (data.take m) h (Int.le_refl _) (by rw [hlk]; omega)
      (fun V hV => long_packed V b g c l 0 false 64 (n : Int) hV ⟨Nat.zero_le _, q ++ more, by rw [List.drop_zero, hl, List.append_assoc, hp]⟩)
      (fun V hV hs => by
        by_cases hn : 0 < n
        · have hh := getDlc_any V b g c l 0 W.heap.size 64 n false 64 data hV hs hn (by omega) (by omega) (by omega) (by omega) ⟨Nat.zero_le _, more, by rw [List.drop_zero, hl, hp, hq, if_pos hn]⟩ hlb
          rw [Nat.zero_add, htk, List.length_append] at hh
          rw [hp, hq, if_pos hn]
          exact hh
        · have hn0 : n = 0 := by omega
          have hm0 : m = 0 := by omega
          have hp0 : p = [0] := by rw [hp, hn0]; rfl
          have hq0 : q = [] := by rw [hq, if_neg hn]
          have hh := getDlc_none V b g c l 0 W.heap.size false 64 hV ⟨Nat.zero_le _, more, by rw [List.drop_zero, hl, hp0, hq0]; rfl⟩ hlb
          rw [hp0, hq0, hm0, List.take_zero]
          exact hh)
    have hget := fun (a : Addr) (cI : Nat) (W : World) h => Ses.get_alone ⟨3, 0, false, false⟩ ⟨true, data.take m, [], 0⟩ rfl l (p.length + q.length) false (by omega) (by omega) (fun V b g c hr => (hgot V b g c hr).mono (fun e w' h => h.q)) a cI W h
    rw [hdr] at hget
    simp only [hlk] at hget
    have HSl : Hid (∀ W : World, Below w.heap.size w W → ∀ A c, (A = A0 ∧ c = c0 ∨ A0 = none ∧ A = none) → Kd.C (Kd.int .u8) W A m (data.take m)) := Lib.hid (fun W hb A c hA => by
      cases A0 with
      | none =>
        have hl0 : data = [] := by
          by_cases h : 0 < data.length
          · obtain ⟨g, o, e, _⟩ := C_base HR0.out h
            cases e
          · exact List.eq_nil_of_length_eq_zero (by omega)
        have hm0 : m = 0 := by rw [hl0] at hml; simpa using hml
        have e : A = none := by rcases hA with h | h <;> simp [h]
        subst e
        rw [hm0, List.take_zero]
        exact C_empty _ _ _
      | some ad =>
        have e : A = some ad := by
          rcases hA with h | h
          · exact h.1
          · cases h.1
        subst e
        obtain ⟨gd, od, id⟩ := ad
        by_cases h : 0 < data.length
        · obtain ⟨g, o, e, _⟩ := C_base HR0.out h
          injection e with e
          injection e with e1 e2 e3
          subst e1; subst e2; subst e3
          have hh := Ses.C_part (Kd.C_below HR0.out hb) 0 m (by omega)
          rw [List.drop_zero, hlk] at hh
          exact hh
        · have hl0 : data = [] := List.eq_nil_of_length_eq_zero (by omega)
          have hm0 : m = 0 := by omega
          rw [hm0, List.take_zero]
          exact C_empty _ _ _)
    have hef : bytes_Equal.f (data.take m) (data.take m) = some true := by simp [bytes_Equal.f]
    have heg : bytes_Equal.f more more = some true := by simp [bytes_Equal.f]
    have HEq0 := Lib.hid (fun (W : World) (A : Option Addr) (c : Nat) (B : Option Addr) (d : Nat) h1 h2 h3 h4 => bytes_Equal.calls A c (data.take m) B d (data.take m) true W h1 h2 h3 h4 hef)
    have HEq1 := Lib.hid (fun (W : World) (A : Option Addr) (c : Nat) h1 h2 h3 => bytes_Equal.calls A c more A1 c1 more true W h1 h2 h3 hc1 heg)
    simp only [hlk] at HEq0
    have HGet := Lib.hid hget
    have HLk := Lib.hid hlk
    have HPk := Lib.hid (fun W => Ses.specPacked (n : Int) (by omega) (by omega) W)
    rw [← hp] at HPk
    have HCl : Hid (∀ W : World, Below w.heap.size w W → Calls Tryd.prog 34 #[.slice A0 data.length c0, .bool false, .int .i64 64] W fun e w' => ∃ v, e = .returned v ∧ Kd.R (Kd.int .u8) 5 w' W.heap.size (fun _ => True) v (Dg.clrB false 64 data) ∧ Below W.heap.size W w') := Lib.hid (fun (W : World) (h : Below w.heap.size w W) => specClr data A0 c0 false 64 W (Kd.C_below HR0.out h) hc0 (by omega) (by omega) (by omega))
    have HCat := Lib.hid (fun (W : World) (g0 : Nat) (A : Option Addr) (cA : Nat) s0 s1 h0 h1 => concat2 W g0 A A1 cA c1 (p ++ q) more s0 s1 h0 h1 (by rw [List.length_append]; omega) (by rw [List.length_append]; omega))
    rw [← hl] at HCat
    have HQ := Lib.hid hq
    have HPq := Lib.hid (And.intro hpp (And.intro hpl hql))
    have HLl := Lib.hid hll
    clear hget hgot hlb hqb hpb hby hbm htk hlk hp hq hl hdr hll hmm hef heg
    obtain ⟨L, hL⟩ : ∃ L, L = l.length := ⟨_, rfl⟩
    rw [← hL] at HGet HLl
    have HL := Lib.hid hL
    clear hL
    have hLp : 0 < L := by have := HLl.out; omega
    have wn : IntKind.u64.wrap ((n : Nat) : Int) = ((n : Nat) : Int) := (IntKind.wrap_u64 _).trans (by omega)
    have wn2 : IntKind.i64.wrap ((n : Nat) : Int) = ((n : Nat) : Int) := (IntKind.wrap_i64 _).trans (by omega)
    have hm0 : (0 : Int) ≤ (m : Int) := by omega
    have hm1 : (m : Int) ≤ (data.length : Int) := by omega
    have hm2 : (m : Int) ≤ (c0 : Int) := by omega
    clear hpl hpp hql
    by_cases hn : 0 < n
    · have tn : decide ((n : Int) > 0) = true := decide_eq_true (by omega)
      rw [HQ.out, if_pos hn] at HCat HPq HLl
      obtain ⟨pq, hpq⟩ : ∃ pq, pq = p ++ Dg.clrB false 64 data := ⟨_, rfl⟩
      rw [← hpq] at HCat
      have HPQ := Lib.hid hpq
      clear hpq
      go_enter Tryd.func10, Tryd.ntmps10
      go_wp2_with (first | (go_at_call 21; (with_reducible refine (HPk.out _).mono ?_); rintro e w1 ⟨v1, rfl, hR1, hb1⟩; have HO1 := Lib.hid hR1; have HB1 := Lib.hid hb1; clear hR1 hb1) | (go_at_call 34; (with_reducible refine (HCl.out _ HB1.out).mono ?_); rintro e w2 ⟨v2, rfl, hR2, hb2⟩; obtain ⟨A2, c2, rfl, hle2, hC2, -, -⟩ := Ses.R_slots hR2; have HC2 := Lib.hid hC2; have HO2 := Lib.hid (Kd.R_below HO1.out hb2); have HB2 := Lib.hid (HB1.out.trans (hb2.mono HB1.out.size)); clear hR2 hC2 hb2) | ((with_reducible refine gate_builtin (b := .append) (xs := #[.tmp 32, .tmp 34]) rfl ?_); at_builtin; refine Kd.R_append_row (Value.int .u8) (0 : Int) (h1 := fun _ => rfl) (w0 := w) w.heap.size rfl (.tmp 32) (.tmp 34) 22 5 (.int .u8 0) 1 rfl Tryd.underlying22 inf5 rfl (by decide) v1 (p) (Dg.clrB false 64 data) A2 ((Dg.clrB false 64 data).length) (c2) (fun _ => True) rfl rfl (fun _ _ => trivial) HO2.out HC2.out HB2.out HB2.out.size ?aL ?_; (case aL => have := HPq.out; omega); intro v3 w3 ho hb hg hat; (rw [← HPQ.out] at ho); have HO3 := Lib.hid ho; have HB3 := Lib.hid hb; clear ho hb hg hat; obtain ⟨A3, c3, rfl, hle3, hC3, -, -⟩ := Ses.R_slots HO3.out; have HC3 := Lib.hid hC3; clear hC3) | (go_at_call 35; (with_reducible refine (HCat.out _ w3.heap.size A3 c3 ?s0 ?s1 ?h0 ?h1).mono ?_); (case s0 => exact xb_cell (xb_new w3 _) 0); (case s1 => exact xb_cell (xb_new w3 _) 1); (case h0 => exact Kd.C_below HC3.out (below_alloc (Below.refl _ _) _)); (case h1 => exact Kd.C_below HR1.out (HB3.out.trans ((below_alloc (Below.refl _ _) _).mono HB3.out.size))); rintro e w4 ⟨v4, rfl, hR4, hb4⟩; (have hp4 := hLp); (rw [HL.out] at hp4); obtain ⟨g4, c4, rfl, -, -, -⟩ := Kd.R_form hR4 hp4; obtain ⟨-, -, hC4⟩ := Kd.R_reads' hR4; (rw [← HL.out] at hC4 ⊢); have HC4 := Lib.hid hC4; (have hz3 : w3.heap.size ≤ (w3.alloc (.cells #[.slice A3 (pq).length c3, .slice A1 more.length c1] 22)).heap.size := by (rw [World.size_alloc]; omega)); have HB4 := Lib.hid (HB3.out.trans (((below_alloc (Below.refl w3.heap.size w3) _).trans (hb4.mono hz3)).mono HB3.out.size)); clear hR4 hC4 hb4 hp4) | (go_at_call 18; (with_reducible refine (HGet.out _ _ w4 HC4.out).mono ?_); rintro e w5 ⟨g5, c5, A5, cA5, B5, cB5, X5, cX5, rfl, y0, y1, -, -, hle5, hC5, hle6, hC6, hb5⟩; have HC5 := Lib.hid hC5; have HC6 := Lib.hid hC6; have HB5 := Lib.hid (HB4.out.trans (hb5.mono HB4.out.size)); clear hC5 hC6 hb5))
      go_region_held3 (fun w' => w'.cell? ⟨g5, 0, none⟩ = some (.bool true) ∧ w'.cell? ⟨g5, 1, none⟩ = some (.slice A5 m cA5)) (first | exact ⟨y0, y1⟩ | exact ⟨z0, z1⟩) (first | (go_at_call 19; (with_reducible refine (HEq0.out w5.drew _ _ _ _ ?h1 ?h2 ?h3 ?h4).mono ?_); (case h1 => exact Kd.C_below HC5.out (below_drew (Below.refl _ _))); (case h2 => exact hle5); (case h3 => exact HSl.out _ (HB5.out.trans ((below_drew (Below.refl _ _)).mono HB5.out.size)) _ _ (.inl ⟨rfl, rfl⟩)); (case h4 => omega); rintro e w6 ⟨rfl, n6, rfl⟩) | (go_at_call 19; (with_reducible refine (HEq1.out _ _ _ ?h1 ?h2 ?h3).mono ?_); (case h1 => exact Kd.C_below HC6.out (bl_drewN _ _)); (case h2 => exact hle6); (case h3 => exact Kd.C_below HR1.out (HB5.out.trans ((bl_drewN _ _).mono HB5.out.size))); rintro e w7 ⟨rfl, n7, rfl⟩) | (go_at_call 14; (with_reducible refine (sessionLive_calls _).mono ?_); rintro e w8 ⟨rfl, hb8⟩; have HB8 := Lib.hid hb8; have z0 := bl_cell hb8 y0; have z1 := bl_cell hb8 y1; clear hb8))
      go_wp2
      go_ret
      exact ⟨rfl, HB5.out.trans ((bl_trans (bl_drewN _ _) HB8.out).mono HB5.out.size)⟩
    · have tn : decide ((n : Int) > 0) = false := decide_eq_false (by omega)
      rw [HQ.out, if_neg hn, List.append_nil] at HCat
      rw [HQ.out, if_neg hn] at HPq HLl
      go_enter Tryd.func10, Tryd.ntmps10
      go_wp2_with (first | (go_at_call 21; (with_reducible refine (HPk.out _).mono ?_); rintro e w3 ⟨v3, rfl, hR3, hb3⟩; obtain ⟨A3, c3, rfl, hle3, hC3, -, -⟩ := Ses.R_slots hR3; have HC3 := Lib.hid hC3; have HB3 := Lib.hid hb3; clear hR3 hC3 hb3) | (go_at_call 35; (with_reducible refine (HCat.out _ w3.heap.size A3 c3 ?s0 ?s1 ?h0 ?h1).mono ?_); (case s0 => exact xb_cell (xb_new w3 _) 0); (case s1 => exact xb_cell (xb_new w3 _) 1); (case h0 => exact Kd.C_below HC3.out (below_alloc (Below.refl _ _) _)); (case h1 => exact Kd.C_below HR1.out (HB3.out.trans ((below_alloc (Below.refl _ _) _).mono HB3.out.size))); rintro e w4 ⟨v4, rfl, hR4, hb4⟩; (have hp4 := hLp); (rw [HL.out] at hp4); obtain ⟨g4, c4, rfl, -, -, -⟩ := Kd.R_form hR4 hp4; obtain ⟨-, -, hC4⟩ := Kd.R_reads' hR4; (rw [← HL.out] at hC4 ⊢); have HC4 := Lib.hid hC4; (have hz3 : w3.heap.size ≤ (w3.alloc (.cells #[.slice A3 (p).length c3, .slice A1 more.length c1] 22)).heap.size := by (rw [World.size_alloc]; omega)); have HB4 := Lib.hid (HB3.out.trans (((below_alloc (Below.refl w3.heap.size w3) _).trans (hb4.mono hz3)).mono HB3.out.size)); clear hR4 hC4 hb4 hp4) | (go_at_call 18; (with_reducible refine (HGet.out _ _ w4 HC4.out).mono ?_); rintro e w5 ⟨g5, c5, A5, cA5, B5, cB5, X5, cX5, rfl, y0, y1, -, -, hle5, hC5, hle6, hC6, hb5⟩; have HC5 := Lib.hid hC5; have HC6 := Lib.hid hC6; have HB5 := Lib.hid (HB4.out.trans (hb5.mono HB4.out.size)); clear hC5 hC6 hb5))
      go_region_held3 (fun w' => w'.cell? ⟨g5, 0, none⟩ = some (.bool true) ∧ w'.cell? ⟨g5, 1, none⟩ = some (.slice A5 m cA5)) (first | exact ⟨y0, y1⟩ | exact ⟨z0, z1⟩) (first | (go_at_call 19; (with_reducible refine (HEq0.out w5.drew _ _ _ _ ?h1 ?h2 ?h3 ?h4).mono ?_); (case h1 => exact Kd.C_below HC5.out (below_drew (Below.refl _ _))); (case h2 => exact hle5); (case h3 => exact HSl.out _ (HB5.out.trans ((below_drew (Below.refl _ _)).mono HB5.out.size)) _ _ (.inl ⟨rfl, rfl⟩)); (case h4 => omega); rintro e w6 ⟨rfl, n6, rfl⟩) | (go_at_call 19; (with_reducible refine (HEq1.out _ _ _ ?h1 ?h2 ?h3).mono ?_); (case h1 => exact Kd.C_below HC6.out (bl_drewN _ _)); (case h2 => exact hle6); (case h3 => exact Kd.C_below HR1.out (HB5.out.trans ((bl_drewN _ _).mono HB5.out.size))); rintro e w7 ⟨rfl, n7, rfl⟩) | (go_at_call 14; (with_reducible refine (sessionLive_calls _).mono ?_); rintro e w8 ⟨rfl, hb8⟩; have HB8 := Lib.hid hb8; have z0 := bl_cell hb8 y0; have z1 := bl_cell hb8 y1; clear hb8))
      go_wp2
      go_ret
      exact ⟨rfl, HB5.out.trans ((bl_trans (bl_drewN _ _) HB8.out).mono HB5.out.size)⟩
  · cases h
end Go.Proofs.YtdnahdddkagfhaaDoor.X
