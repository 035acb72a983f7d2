/- sessionSize and sessionPuts. -/
import Derived.Test.YtdnahdddkagfhaaDoorQa
import Derived.Test.YtdnahdddkagfhaaDoorTz
namespace Go.Proofs.YtdnahdddkagfhaaDoor.X
open Go.RowKit Go.Proofs.YtdnahdddkagfhaaDoorW.PrintWords Go.Proofs.YtdnahdddkagfhaaDoorW.PrintMore
attribute [local go_sem] setCell_drewN alloc_drewN
set_option linter.unusedVariables false
set_option linter.unusedSimpArgs false
namespace Ses
theorem and_mask (p : Nat) (hp : p ≤ 64) (x : Int) (h0 : 0 ≤ x) (h1 : x < 18446744073709551616) : Go.bits .and .u64 x (2 ^ p - 1) = x % 2 ^ p :=
  Go.bits_mask .u64 64 (by decide) (fun n a b => by simp [IntKind.wrap, IntKind.bits, IntKind.signed]; omega) p (by omega) x h0 h1
/-- The size of a number. -/
def szOf (s : Int) : Int := if s % 4 = 0 then 1 else if s % 4 = 1 then 2 else if s % 4 = 2 then 4 else 8
/-- The number that fits. -/
def numOf (k s n : Int) : Int := if k % 6 = 2 then (if s % 4 = 0 then n % 128 else if s % 4 = 1 then n % 32768 else if s % 4 = 2 then n % 2147483648 else n % 9223372036854775808) else (if s % 4 = 0 then n % 256 else if s % 4 = 1 then n % 65536 else if s % 4 = 2 then n % 4294967296 else n)
end Ses
set_option maxHeartbeats 4000000 in
set_option maxRecDepth 100000 in
theorem sessionSize_ok (k s n fl : Int) (b c : Bool) (v1 v2 : Value) (A B : Option Addr) (la ca lb cb : Nat) (e1 : v1 = .slice A la ca) (e2 : v2 = .slice B lb cb) (w : World) (hk : 0 ≤ k ∧ k ≤ 255) (hs : 0 ≤ s ∧ s ≤ 255) (hn : 0 ≤ n ∧ n < 18446744073709551616) :
    Calls Tryd.prog 53 #[.agg #[.int .u8 k, .int .u8 s, .int .u64 n, .bool b, .bool c, .int .u8 fl, v1, v2]] w fun e w' => e = .returned (.tuple #[.int .u8 (Ses.szOf s), .int .u64 (Ses.numOf k s n)]) ∧ Below w.heap.size w w' := by
  subst e1; subst e2
  have hm : s % 4 = 0 ∨ s % 4 = 1 ∨ s % 4 = 2 ∨ s % 4 = 3 := by omega
  have b8 : Go.bits .and .u64 n 255 = n % 256 := Ses.and_mask 8 (by decide) n hn.1 hn.2
  have b16 : Go.bits .and .u64 n 65535 = n % 65536 := Ses.and_mask 16 (by decide) n hn.1 hn.2
  have b32 : Go.bits .and .u64 n 4294967295 = n % 4294967296 := Ses.and_mask 32 (by decide) n hn.1 hn.2
  have c7 : Go.bits .and .u64 (n % 256) 127 = n % 128 := (Ses.and_mask 7 (by decide) (n % 256) (by omega) (by omega)).trans (by show n % 256 % 128 = n % 128; omega)
  have c15 : Go.bits .and .u64 (n % 65536) 32767 = n % 32768 := (Ses.and_mask 15 (by decide) (n % 65536) (by omega) (by omega)).trans (by show n % 65536 % 32768 = n % 32768; omega)
  have c31 : Go.bits .and .u64 (n % 4294967296) 2147483647 = n % 2147483648 := (Ses.and_mask 31 (by decide) (n % 4294967296) (by omega) (by omega)).trans (by show n % 4294967296 % 2147483648 = n % 2147483648; omega)
  have c63 : Go.bits .and .u64 n 9223372036854775807 = n % 9223372036854775808 := Ses.and_mask 63 (by decide) n hn.1 hn.2
  have hz : w.heap.size ≤ (w.alloc (.cells #[.int .u8 k, .int .u8 s, .int .u64 n, .bool b, .bool c, .int .u8 fl, .slice A la ca, .slice B lb cb] 70)).heap.size := by rw [World.size_alloc]; omega
  obtain ⟨sz, hsz⟩ : ∃ sz, sz = Ses.szOf s := ⟨_, rfl⟩
  obtain ⟨nm, hnm⟩ : ∃ nm, nm = Ses.numOf k s n := ⟨_, rfl⟩
  obtain ⟨k0, k1⟩ := hk
  obtain ⟨s0, s1⟩ := hs
  obtain ⟨n0, n1⟩ := hn
  by_cases h2 : k % 6 = 2
  · rcases hm with hm | hm | hm | hm
    · have t2 : decide (k % 6 = 2) = true := decide_eq_true h2
      rw [← hsz, ← hnm]
      have HSz : Hid (sz = 1) := Lib.hid (by rw [hsz]; simp [Ses.szOf, hm])
      have HNm : Hid (nm = n % 128) := Lib.hid (by rw [hnm]; simp [Ses.numOf, hm, h2])
      clear hsz hnm
      go_enter Tryd.func53, Tryd.ntmps53
      go_wp2
      refine bodyPost_ret (v := .tuple #[.int .u8 1, .int .u64 (n % 128)]) (by simp [results, Tryd.results53, go_sem]) rfl ?_
      exact ⟨by rw [HSz.out, HNm.out], by repeat (first | exact Below.refl _ _ | apply below_alloc)⟩
    · have t2 : decide (k % 6 = 2) = true := decide_eq_true h2
      rw [← hsz, ← hnm]
      have HSz : Hid (sz = 2) := Lib.hid (by rw [hsz]; simp [Ses.szOf, hm])
      have HNm : Hid (nm = n % 32768) := Lib.hid (by rw [hnm]; simp [Ses.numOf, hm, h2])
      clear hsz hnm
      go_enter Tryd.func53, Tryd.ntmps53
      go_wp2
      refine bodyPost_ret (v := .tuple #[.int .u8 2, .int .u64 (n % 32768)]) (by simp [results, Tryd.results53, go_sem]) rfl ?_
      exact ⟨by rw [HSz.out, HNm.out], by repeat (first | exact Below.refl _ _ | apply below_alloc)⟩
    · have t2 : decide (k % 6 = 2) = true := decide_eq_true h2
      rw [← hsz, ← hnm]
      have HSz : Hid (sz = 4) := Lib.hid (by rw [hsz]; simp [Ses.szOf, hm])
      have HNm : Hid (nm = n % 2147483648) := Lib.hid (by rw [hnm]; simp [Ses.numOf, hm, h2])
      clear hsz hnm
      go_enter Tryd.func53, Tryd.ntmps53
      go_wp2
      refine bodyPost_ret (v := .tuple #[.int .u8 4, .int .u64 (n % 2147483648)]) (by simp [results, Tryd.results53, go_sem]) rfl ?_
      exact ⟨by rw [HSz.out, HNm.out], by repeat (first | exact Below.refl _ _ | apply below_alloc)⟩
    · have t2 : decide (k % 6 = 2) = true := decide_eq_true h2
      rw [← hsz, ← hnm]
      have HSz : Hid (sz = 8) := Lib.hid (by rw [hsz]; simp [Ses.szOf, hm])
      have HNm : Hid (nm = n % 9223372036854775808) := Lib.hid (by rw [hnm]; simp [Ses.numOf, hm, h2])
      clear hsz hnm
      go_enter Tryd.func53, Tryd.ntmps53
      go_wp2
      refine bodyPost_ret (v := .tuple #[.int .u8 8, .int .u64 (n % 9223372036854775808)]) (by simp [results, Tryd.results53, go_sem]) rfl ?_
      exact ⟨by rw [HSz.out, HNm.out], by repeat (first | exact Below.refl _ _ | apply below_alloc)⟩
  · rcases hm with hm | hm | hm | hm
    · have t2 : decide (k % 6 = 2) = false := decide_eq_false h2
      rw [← hsz, ← hnm]
      have HSz : Hid (sz = 1) := Lib.hid (by rw [hsz]; simp [Ses.szOf, hm])
      have HNm : Hid (nm = n % 256) := Lib.hid (by rw [hnm]; simp [Ses.numOf, hm, h2])
      clear hsz hnm
      go_enter Tryd.func53, Tryd.ntmps53
      go_wp2
      refine bodyPost_ret (v := .tuple #[.int .u8 1, .int .u64 (n % 256)]) (by simp [results, Tryd.results53, go_sem]) rfl ?_
      exact ⟨by rw [HSz.out, HNm.out], by repeat (first | exact Below.refl _ _ | apply below_alloc)⟩
    · have t2 : decide (k % 6 = 2) = false := decide_eq_false h2
      rw [← hsz, ← hnm]
      have HSz : Hid (sz = 2) := Lib.hid (by rw [hsz]; simp [Ses.szOf, hm])
      have HNm : Hid (nm = n % 65536) := Lib.hid (by rw [hnm]; simp [Ses.numOf, hm, h2])
      clear hsz hnm
      go_enter Tryd.func53, Tryd.ntmps53
      go_wp2
      refine bodyPost_ret (v := .tuple #[.int .u8 2, .int .u64 (n % 65536)]) (by simp [results, Tryd.results53, go_sem]) rfl ?_
      exact ⟨by rw [HSz.out, HNm.out], by repeat (first | exact Below.refl _ _ | apply below_alloc)⟩
    · have t2 : decide (k % 6 = 2) = false := decide_eq_false h2
      rw [← hsz, ← hnm]
      have HSz : Hid (sz = 4) := Lib.hid (by rw [hsz]; simp [Ses.szOf, hm])
      have HNm : Hid (nm = n % 4294967296) := Lib.hid (by rw [hnm]; simp [Ses.numOf, hm, h2])
      clear hsz hnm
      go_enter Tryd.func53, Tryd.ntmps53
      go_wp2
      refine bodyPost_ret (v := .tuple #[.int .u8 4, .int .u64 (n % 4294967296)]) (by simp [results, Tryd.results53, go_sem]) rfl ?_
      exact ⟨by rw [HSz.out, HNm.out], by repeat (first | exact Below.refl _ _ | apply below_alloc)⟩
    · have t2 : decide (k % 6 = 2) = false := decide_eq_false h2
      rw [← hsz, ← hnm]
      have HSz : Hid (sz = 8) := Lib.hid (by rw [hsz]; simp [Ses.szOf, hm])
      have HNm : Hid (nm = n) := Lib.hid (by rw [hnm]; simp [Ses.numOf, hm, h2])
      clear hsz hnm
      go_enter Tryd.func53, Tryd.ntmps53
      go_wp2
      refine bodyPost_ret (v := .tuple #[.int .u8 8, .int .u64 (n)]) (by simp [results, Tryd.results53, go_sem]) rfl ?_
      exact ⟨by rw [HSz.out, HNm.out], by repeat (first | exact Below.refl _ _ | apply below_alloc)⟩
namespace Ses
/-- The step that writes a part. -/
def conv (p : SP) : PS := ⟨p.kind % 6, p.data, p.other, if p.kind % 6 = 2 then numOf p.kind p.size p.num else 0, if p.kind % 6 = 3 then numOf p.kind p.size p.num else 0, szOf p.size, p.flag, p.big, p.comp⟩
theorem ps_make {w : World} {base : Nat} {ok : Nat → Prop} {p : PS} {v1 v2 : Value} (h1 : Kd.R (Kd.int .u8) 5 w base ok v1 p.data) (h2 : Kd.R (Kd.int .u8) 5 w base ok v2 p.other) : psKd.M w base ok p [.int .i64 p.kind, v1, v2, .int .i64 p.num, .int .u64 p.uns, .int .u8 p.size, .int .u8 p.flag, .bool p.big, .bool p.comp] :=
  ⟨[_], _, rfl, rfl, [_], _, rfl, ⟨v1, rfl, h1⟩, [_], _, rfl, ⟨v2, rfl, h2⟩, [_], _, rfl, rfl, [_], _, rfl, rfl, [_], _, rfl, rfl, [_], _, rfl, rfl, [_], _, rfl, rfl, rfl⟩
theorem there9 {w : World} {b : Nat} {z0 z1 z2 z3 z4 z5 z6 z7 z8 : Value} {t : TypeId} (h : w.heap[b]? = some (.cells #[z0, z1, z2, z3, z4, z5, z6, z7, z8] t (0, 0))) : w.there b 0 9 := by
  intro j hj
  rw [Nat.zero_add]
  refine ⟨?_, blk_free h j⟩
  rw [xb_cell h j]
  rw [Option.isSome_iff_exists]
  exact ⟨_, Array.getElem?_eq_getElem (by simpa using hj)⟩
theorem block9 {w : World} {b : Nat} {z0 z1 z2 z3 z4 z5 z6 z7 z8 v0 v1 v2 v3 v4 v5 v6 v7 v8 : Value} {t : TypeId} (h : w.heap[b]? = some (.cells #[z0, z1, z2, z3, z4, z5, z6, z7, z8] t (0, 0))) : (w.setCells b 0 [v0, v1, v2, v3, v4, v5, v6, v7, v8]).heap[b]? = some (.cells #[v0, v1, v2, v3, v4, v5, v6, v7, v8] t (0, 0)) := by
  obtain ⟨cur', h1, -, h3⟩ := setCells_row [v0, v1, v2, v3, v4, v5, v6, v7, v8] 0 w _ h (by simp)
  have e : cur' = #[v0, v1, v2, v3, v4, v5, v6, v7, v8] := by
    apply Array.toList_inj.1
    rw [h3]
    simp
  rw [h1, e]
theorem below_setCells {B : Nat} {a w : World} {b : Nat} (vs : List Value) (h : Below B a w) (hb : B ≤ b) : Below B a (w.setCells b 0 vs) := by
  obtain ⟨s1, s2, s3, s4⟩ := setCells_same b vs 0 w
  exact ⟨s1.trans h.os, s2.trans h.tape, s3.trans h.output, by rw [s4]; exact h.size, fun k hk => (setCells_far vs 0 k (by omega)).trans (h.block k hk)⟩
theorem cell_setCells {w : World} {p b i : Nat} (vs : List Value) (h : p ≠ b) : (w.setCells b 0 vs).cell? ⟨p, i, none⟩ = w.cell? ⟨p, i, none⟩ := by
  unfold World.cell?
  rw [setCells_far vs 0 p h]
theorem R_setCells {w : World} {base b : Nat} {ok : Nat → Prop} {v : Value} {l : List Int} (vs : List Value) (o : Nat) (h : Kd.R (Kd.int .u8) 5 w base ok v l) (hne : ∀ k, v.ownBlock = some k → k ≠ b) : Kd.R (Kd.int .u8) 5 (w.setCells b o vs) base (fun _ => True) v l := by
  obtain ⟨s1, s2, s3, s4⟩ := setCells_same b vs o w
  have hg : w.grownBy (w.setCells b o vs) (some b) := ⟨s1, s2, s3, by rw [s4]; exact Nat.le_refl _, fun k _ hk => setCells_far vs o k (fun e => hk (by rw [e]))⟩
  have h1 := Kd.R_reok (ok := fun k => k ≠ b) rfl h (fun k hk => hne k hk)
  exact Kd.R_mono (Kd.R_grown h1 hg (fun k hk e => hk (Option.some.inj e))) (fun _ _ => trivial)
structure SPok (p : SP) : Prop where
  k0 : 0 ≤ p.kind
  k1 : p.kind ≤ 255
  s0 : 0 ≤ p.size
  s1 : p.size ≤ 255
  n0 : 0 ≤ p.num
  n1 : p.num < 18446744073709551616
  data : p.data.length ≤ 1000
  other : p.other.length ≤ 1000
theorem numOf_range {k s n : Int} (h0 : 0 ≤ n) (h1 : n < 18446744073709551616) : 0 ≤ numOf k s n ∧ numOf k s n < 18446744073709551616 ∧ (k % 6 = 2 → numOf k s n < 9223372036854775808) := by
  unfold numOf
  repeat' split
  all_goals refine ⟨by omega, by omega, fun h => ?_⟩
  all_goals first | omega | (exfalso; omega)
end Ses
theorem take_map {α β : Type} {f : α → β} {l : List α} {j : Nat} {p : α} (h : l[j]? = some p) : (l.take (j + 1)).map f = (l.take j).map f ++ [f p] := by
  obtain ⟨hl, rfl⟩ := List.getElem?_eq_some_iff.1 h
  rw [List.take_succ_eq_append_getElem hl, List.map_append]
  rfl
set_option maxHeartbeats 16000000 in
set_option maxRecDepth 100000 in
theorem sessionPuts_ok (ps : List Ses.SP) (A : Option Addr) (cA : Nat) (w : World) (hC : Ses.spKd.C w A ps.length ps) (ok : ∀ p ∈ ps, Ses.SPok p) (hn : ps.length ≤ 20) :
    Calls Tryd.prog 26 #[.slice A ps.length cA] w fun e w' => ∃ v, e = .returned v ∧ Ses.psKd.R 29 w' w.heap.size (fun _ => True) v (ps.map Ses.conv) ∧ Below w.heap.size w w' := by
  have inf29 : (Tryd.prog.info? 29).map (fun i => (i.zero, i.size, i.bytes)) = some (some (.agg #[.int .i64 0, .slice none 0 0, .slice none 0 0, .int .i64 0, .int .u64 0, .int .u8 0, .int .u8 0, .bool false, .bool false]), 9, 80) := by kernel_rfl
  have HC := Lib.hid hC
  have HOk := Lib.hid ok
  obtain ⟨n, hnl⟩ : ∃ n, n = ps.length := ⟨_, rfl⟩
  have HN := Lib.hid hnl
  rw [← hnl] at hn ⊢
  clear hC ok hnl
  go_enter Tryd.func26, Tryd.ntmps26
  go_wp2
  go_loopw [3, 11] (fun v3 v11 wr => ∃ j : Nat, v11 = .int .i64 j ∧ j ≤ n ∧ Hid (Ses.psKd.R 29 wr w.heap.size (fun _ => True) v3 ((ps.take j).map Ses.conv)) ∧ Hid (Below w.heap.size w wr)) (fun _ v11 _ => n - (intOf v11).toNat)
  case atStart => exact ⟨0, rfl, Nat.zero_le _, Lib.hid (by rw [List.take_zero]; exact Kd.R_nil _ _ _ _ _), Lib.hid (Below.refl _ _)⟩
  case round =>
    obtain ⟨j, rfl, hj, HO, HB⟩ := hrel
    by_cases hlt : j < n
    · have hjl : j < ps.length := by rw [← HN.out]; exact hlt
      have t2 : decide ((j : Int) < (n : Int)) = true := decide_eq_true (by omega)
      obtain ⟨p, hp⟩ : ∃ p, ps[j]? = some p := ⟨_, List.getElem?_eq_getElem hjl⟩
      obtain ⟨g0, o0, rfl, -, hel⟩ := Kd.C_head (Kd.C_below HC.out HB.out) (by decide) (by omega)
      obtain ⟨cl, -, hK, hcell⟩ := hel j p hp
      obtain ⟨A1, c1, A2, c2, rfl, hle1, hle2, hA1, hA2⟩ := Ses.sp_open hK
      obtain ⟨kd, size, num, pb, pc, flag, data, other⟩ := p
      simp only at hA1 hA2 hle1 hle2
      have s0 : wr.cell? ⟨g0, o0 + j * 8, none⟩ = some (.int .u8 kd) := hcell 0 _ rfl
      have s1 : wr.cell? ⟨g0, o0 + j * 8 + 1, none⟩ = some (.int .u8 size) := hcell 1 _ rfl
      have s2 : wr.cell? ⟨g0, o0 + j * 8 + 2, none⟩ = some (.int .u64 num) := hcell 2 _ rfl
      have s3 : wr.cell? ⟨g0, o0 + j * 8 + 3, none⟩ = some (.bool pb) := hcell 3 _ rfl
      have s4 : wr.cell? ⟨g0, o0 + j * 8 + 4, none⟩ = some (.bool pc) := hcell 4 _ rfl
      have s5 : wr.cell? ⟨g0, o0 + j * 8 + 5, none⟩ = some (.int .u8 flag) := hcell 5 _ rfl
      have s6 : wr.cell? ⟨g0, o0 + j * 8 + 6, none⟩ = some (.slice A1 data.length c1) := hcell 6 _ rfl
      have s7 : wr.cell? ⟨g0, o0 + j * 8 + 7, none⟩ = some (.slice A2 other.length c2) := hcell 7 _ rfl
      have HP := Lib.hid hp
      have HOp := HOk.out _ (List.mem_of_getElem? hp)
      obtain ⟨k0, k1, z0, z1, n0, n1, hd1, hd2⟩ := HOp
      simp only at k0 k1 z0 z1 n0 n1 hd1 hd2
      have HA1 := Lib.hid hA1
      have HA2 := Lib.hid hA2
      obtain ⟨nd, hnd⟩ : ∃ nd, nd = data.length := ⟨_, rfl⟩
      obtain ⟨no, hno⟩ : ∃ no, no = other.length := ⟨_, rfl⟩
      rw [← hnd] at s6 hle1 hd1
      rw [← hno] at s7 hle2 hd2
      have HNd := Lib.hid hnd
      have HNo := Lib.hid hno
      clear hp hel hK hcell hA1 hA2 hjl hnd hno
      have HSz := Lib.hid (fun W => sessionSize_ok kd size num flag pb pc (.slice A1 nd c1) (.slice A2 no c2) A1 A2 nd c1 no c2 rfl rfl W ⟨k0, k1⟩ ⟨z0, z1⟩ ⟨n0, n1⟩)
      obtain ⟨sz, hsz⟩ : ∃ sz, sz = Ses.szOf size := ⟨_, rfl⟩
      obtain ⟨nm, hnm⟩ : ∃ nm, nm = Ses.numOf kd size num := ⟨_, rfl⟩
      rw [← hsz, ← hnm] at HSz
      have hnr := Ses.numOf_range (k := kd) (s := size) n0 n1
      rw [← hnm] at hnr
      obtain ⟨m0, m1, m2⟩ := hnr
      have HSz' := Lib.hid hsz
      have HNm := Lib.hid hnm
      clear hsz hnm
      go_wp2_with (go_at_call 53; (with_reducible refine (HSz.out _).mono ?_); rintro e w5 ⟨rfl, hb5⟩; have HB5 := Lib.hid hb5; clear hb5)
      have hq : (wr.alloc (.cells #[.int .u8 kd, .int .u8 size, .int .u64 num, .bool pb, .bool pc, .int .u8 flag, .slice A1 nd c1, .slice A2 no c2] 70)).heap[wr.heap.size]? = some (.cells #[.int .u8 kd, .int .u8 size, .int .u64 num, .bool pb, .bool pc, .int .u8 flag, .slice A1 nd c1, .slice A2 no c2] 70 (0, 0)) := xb_new _ _
      have q0 : w5.cell? ⟨wr.heap.size, 0, none⟩ = some (.int .u8 kd) := bl_cell HB5.out (xb_cell hq 0)
      have q3 : w5.cell? ⟨wr.heap.size, 3, none⟩ = some (.bool pb) := bl_cell HB5.out (xb_cell hq 3)
      have q4 : w5.cell? ⟨wr.heap.size, 4, none⟩ = some (.bool pc) := bl_cell HB5.out (xb_cell hq 4)
      have q5 : w5.cell? ⟨wr.heap.size, 5, none⟩ = some (.int .u8 flag) := bl_cell HB5.out (xb_cell hq 5)
      have q6 : w5.cell? ⟨wr.heap.size, 6, none⟩ = some (.slice A1 nd c1) := bl_cell HB5.out (xb_cell hq 6)
      have q7 : w5.cell? ⟨wr.heap.size, 7, none⟩ = some (.slice A2 no c2) := bl_cell HB5.out (xb_cell hq 7)
      have HB6 : Hid (Below wr.heap.size wr w5) := Lib.hid ((below_alloc (Below.refl _ _) _).trans (HB5.out.mono (by rw [World.size_alloc]; omega)))
      have HS5 : Hid (wr.heap.size < w5.heap.size) := Lib.hid (by have := HB5.out.size; rw [World.size_alloc] at this; omega)
      clear hq s0 s1 s2 s3 s4 s5 s6 s7
      have HC1 : Hid (∀ W : World, Below w5.heap.size w5 W → Calls Tryd.prog 17 #[.slice A1 nd c1] W fun e w' => ∃ v, e = .returned v ∧ Kd.R (Kd.int .u8) 5 w' W.heap.size (fun _ => True) v data ∧ Below W.heap.size W w') := Lib.hid (fun W hW => by
        have h := clone_any A1 c1 data W (Kd.C_below (Kd.C_below HA1.out HB6.out) hW) (by have := HNd.out; omega)
        rw [← HNd.out] at h
        exact h)
      have HC2 : Hid (∀ W : World, Below w5.heap.size w5 W → Calls Tryd.prog 17 #[.slice A2 no c2] W fun e w' => ∃ v, e = .returned v ∧ Kd.R (Kd.int .u8) 5 w' W.heap.size (fun _ => True) v other ∧ Below W.heap.size W w') := Lib.hid (fun W hW => by
        have h := clone_any A2 c2 other W (Kd.C_below (Kd.C_below HA2.out HB6.out) hW) (by have := HNo.out; omega)
        rw [← HNo.out] at h
        exact h)
      have hkm : IntKind.i64.wrap (kd.tmod 6) = kd % 6 := by rw [Int.tmod_eq_emod_of_nonneg k0]; exact (IntKind.wrap_i64 _).trans (by omega)
      have inf29s : (Tryd.prog.info? 29).map (·.size) = some 9 := by kernel_rfl
      have Hu0_0 : w5.drew.cell? ⟨wr.heap.size, 0, none⟩ = some (.int .u8 kd) := q0
      have Hu0_3 : w5.drew.cell? ⟨wr.heap.size, 3, none⟩ = some (.bool pb) := q3
      have Hu0_4 : w5.drew.cell? ⟨wr.heap.size, 4, none⟩ = some (.bool pc) := q4
      have Hu0_5 : w5.drew.cell? ⟨wr.heap.size, 5, none⟩ = some (.int .u8 flag) := q5
      have Hu0_6 : w5.drew.cell? ⟨wr.heap.size, 6, none⟩ = some (.slice A1 nd c1) := q6
      have Hu0_7 : w5.drew.cell? ⟨wr.heap.size, 7, none⟩ = some (.slice A2 no c2) := q7
      have Bu0 : Hid (Below w5.heap.size w5 w5.drew) := Lib.hid (below_drew (Below.refl _ _))
      refine wp_region_noPanic ?_
      refine wp_region_held_drew (S := fun w' => w'.cell? ⟨wr.heap.size, 0, none⟩ = some (.int .u8 kd) ∧ w'.cell? ⟨wr.heap.size, 3, none⟩ = some (.bool pb) ∧ w'.cell? ⟨wr.heap.size, 4, none⟩ = some (.bool pc) ∧ w'.cell? ⟨wr.heap.size, 5, none⟩ = some (.int .u8 flag) ∧ w'.cell? ⟨wr.heap.size, 6, none⟩ = some (.slice A1 nd c1) ∧ w'.cell? ⟨wr.heap.size, 7, none⟩ = some (.slice A2 no c2)) (by kernel_rfl) ⟨q0, q3, q4, q5, q6, q7⟩ (fun hHeld => ?_)
      generalize w5.drew = u0 at *
      refine wpAnyH_take (i := 0) (v := ?_) rfl (by kernel_rfl) (by kernel_rfl) (by kernel_rfl) (fun _ _ _ h => h) (Or.inl ⟨by rfl, ?_⟩) (by assumption) ?_
      rotate_left
      · intro w hSw
        obtain ⟨hs0, hs1, hs2, hs3, hs4, hs5⟩ := hSw
        go_simp
        try (with_reducible rfl)
      try simp only [Act.put, List.getElem_toArray, List.getElem_cons_succ, List.getElem_cons_zero, List.setIfInBounds_toArray, List.set_cons_zero, List.set_cons_succ]
      refine wpAnyH_take (i := 1) (v := ?_) rfl (by kernel_rfl) (by kernel_rfl) (by kernel_rfl) (fun _ _ _ h => h) (Or.inl ⟨by rfl, ?_⟩) (by assumption) ?_
      rotate_left
      · intro w hSw
        obtain ⟨hs0, hs1, hs2, hs3, hs4, hs5⟩ := hSw
        go_simp
        try (with_reducible rfl)
      try simp only [Act.put, List.getElem_toArray, List.getElem_cons_succ, List.getElem_cons_zero, List.setIfInBounds_toArray, List.set_cons_zero, List.set_cons_succ]
      refine wpAnyH_take (i := 2) (v := ?_) rfl (by kernel_rfl) (by kernel_rfl) (by kernel_rfl) (fun _ _ _ h => h) (Or.inl ⟨by rfl, ?_⟩) (by assumption) ?_
      rotate_left
      · intro w hSw
        obtain ⟨hs0, hs1, hs2, hs3, hs4, hs5⟩ := hSw
        go_simp
        try (with_reducible rfl)
      try simp only [Act.put, List.getElem_toArray, List.getElem_cons_succ, List.getElem_cons_zero, List.setIfInBounds_toArray, List.set_cons_zero, List.set_cons_succ]
      refine wpAnyH_take (i := 3) (v := ?_) rfl (by kernel_rfl) (by kernel_rfl) (by kernel_rfl) (fun _ _ _ h => h) (Or.inl ⟨by rfl, ?_⟩) (by assumption) ?_
      rotate_left
      · intro w hSw
        obtain ⟨hs0, hs1, hs2, hs3, hs4, hs5⟩ := hSw
        go_simp
        try (with_reducible rfl)
      try simp only [Act.put, List.getElem_toArray, List.getElem_cons_succ, List.getElem_cons_zero, List.setIfInBounds_toArray, List.set_cons_zero, List.set_cons_succ]
      refine wpAnyH_take (i := 4) (v := ?_) rfl (by kernel_rfl) (by kernel_rfl) (by kernel_rfl) (fun _ _ _ h => h) (Or.inl ⟨by rfl, ?_⟩) (by assumption) ?_
      rotate_left
      · intro w hSw
        obtain ⟨hs0, hs1, hs2, hs3, hs4, hs5⟩ := hSw
        go_simp
        try (with_reducible rfl)
      try simp only [Act.put, List.getElem_toArray, List.getElem_cons_succ, List.getElem_cons_zero, List.setIfInBounds_toArray, List.set_cons_zero, List.set_cons_succ]
      refine wpAnyH_take (i := 5) (v := ?_) rfl (by kernel_rfl) (by kernel_rfl) (by kernel_rfl) (fun _ _ _ h => h) (Or.inl ⟨by rfl, ?_⟩) (by assumption) ?_
      rotate_left
      · intro w hSw
        obtain ⟨hs0, hs1, hs2, hs3, hs4, hs5⟩ := hSw
        go_simp
        try (with_reducible rfl)
      try simp only [Act.put, List.getElem_toArray, List.getElem_cons_succ, List.getElem_cons_zero, List.setIfInBounds_toArray, List.set_cons_zero, List.set_cons_succ]
      refine wpAnyH_take (i := 7) (v := ?_) rfl (by kernel_rfl) (by kernel_rfl) (by kernel_rfl) (fun _ _ _ h => h) (Or.inl ⟨by rfl, ?_⟩) (by assumption) ?_
      rotate_left
      · intro w hSw
        obtain ⟨hs0, hs1, hs2, hs3, hs4, hs5⟩ := hSw
        go_simp
        try (with_reducible rfl)
      try simp only [Act.put, List.getElem_toArray, List.getElem_cons_succ, List.getElem_cons_zero, List.setIfInBounds_toArray, List.set_cons_zero, List.set_cons_succ]
      refine wpAnyH_take (i := 8) (v := ?_) rfl (by kernel_rfl) (by kernel_rfl) (by kernel_rfl) (fun _ _ _ h => h) (Or.inl ⟨by rfl, ?_⟩) (by assumption) ?_
      rotate_left
      · intro w hSw
        obtain ⟨hs0, hs1, hs2, hs3, hs4, hs5⟩ := hSw
        go_simp
        try (with_reducible rfl)
      try simp only [Act.put, List.getElem_toArray, List.getElem_cons_succ, List.getElem_cons_zero, List.setIfInBounds_toArray, List.set_cons_zero, List.set_cons_succ]
      refine wpAnyH_take (i := 10) (v := ?_) rfl (by kernel_rfl) (by kernel_rfl) (by kernel_rfl) (fun _ _ _ h => h) (Or.inl ⟨by rfl, ?_⟩) (by assumption) ?_
      rotate_left
      · intro w hSw
        obtain ⟨hs0, hs1, hs2, hs3, hs4, hs5⟩ := hSw
        go_simp
        try (with_reducible rfl)
      try simp only [Act.put, List.getElem_toArray, List.getElem_cons_succ, List.getElem_cons_zero, List.setIfInBounds_toArray, List.set_cons_zero, List.set_cons_succ]
      refine wpAnyH_take (i := 11) (v := ?_) rfl (by kernel_rfl) (by kernel_rfl) (by kernel_rfl) (fun _ _ _ h => h) (Or.inl ⟨by rfl, ?_⟩) (by assumption) ?_
      rotate_left
      · intro w hSw
        obtain ⟨hs0, hs1, hs2, hs3, hs4, hs5⟩ := hSw
        go_simp
        try (with_reducible rfl)
      try simp only [Act.put, List.getElem_toArray, List.getElem_cons_succ, List.getElem_cons_zero, List.setIfInBounds_toArray, List.set_cons_zero, List.set_cons_succ]
      refine wpAnyH_take (i := 12) (v := ?_) rfl (by kernel_rfl) (by kernel_rfl) (by kernel_rfl) (fun _ _ _ h => h) (Or.inl ⟨by rfl, ?_⟩) (by assumption) ?_
      rotate_left
      · intro w hSw
        obtain ⟨hs0, hs1, hs2, hs3, hs4, hs5⟩ := hSw
        go_simp
        try (with_reducible rfl)
      try simp only [Act.put, List.getElem_toArray, List.getElem_cons_succ, List.getElem_cons_zero, List.setIfInBounds_toArray, List.set_cons_zero, List.set_cons_succ]
      refine wpAnyH_take (i := 13) (v := ?_) rfl (by kernel_rfl) (by kernel_rfl) (by kernel_rfl) (fun _ _ _ h => h) (Or.inl ⟨by rfl, ?_⟩) (by assumption) ?_
      rotate_left
      · intro w hSw
        obtain ⟨hs0, hs1, hs2, hs3, hs4, hs5⟩ := hSw
        go_simp
        try (with_reducible rfl)
      try simp only [Act.put, List.getElem_toArray, List.getElem_cons_succ, List.getElem_cons_zero, List.setIfInBounds_toArray, List.set_cons_zero, List.set_cons_succ]
      refine wpAnyH_take (i := 14) (v := ?_) rfl (by kernel_rfl) (by kernel_rfl) (by kernel_rfl) (fun _ _ _ h => h) (Or.inl ⟨by rfl, ?_⟩) (by assumption) ?_
      rotate_left
      · intro w hSw
        obtain ⟨hs0, hs1, hs2, hs3, hs4, hs5⟩ := hSw
        go_simp
        try (with_reducible rfl)
      try simp only [Act.put, List.getElem_toArray, List.getElem_cons_succ, List.getElem_cons_zero, List.setIfInBounds_toArray, List.set_cons_zero, List.set_cons_succ]
      refine wpAnyH_take (i := 15) (v := ?_) rfl (by kernel_rfl) (by kernel_rfl) (by kernel_rfl) (fun _ _ _ h => h) (Or.inl ⟨by rfl, ?_⟩) (by assumption) ?_
      rotate_left
      · intro w hSw
        obtain ⟨hs0, hs1, hs2, hs3, hs4, hs5⟩ := hSw
        go_simp
        try (with_reducible rfl)
      try simp only [Act.put, List.getElem_toArray, List.getElem_cons_succ, List.getElem_cons_zero, List.setIfInBounds_toArray, List.set_cons_zero, List.set_cons_succ]
      refine wpAnyH_take (i := 16) (v := ?_) rfl (by kernel_rfl) (by kernel_rfl) (by kernel_rfl) (fun _ _ _ h => h) (Or.inl ⟨by rfl, ?_⟩) (by assumption) ?_
      rotate_left
      · intro w hSw
        obtain ⟨hs0, hs1, hs2, hs3, hs4, hs5⟩ := hSw
        go_simp
        try (with_reducible rfl)
      try simp only [Act.put, List.getElem_toArray, List.getElem_cons_succ, List.getElem_cons_zero, List.setIfInBounds_toArray, List.set_cons_zero, List.set_cons_succ]
      refine wpAnyH_ready (rs := [6, 18]) (by kernel_rfl) (by simp) ?_
      refine AllReadyH.cons (o := _) rfl (fun K hK => ?_) ?_
      · go_simp
        go_at_call 17
        refine (HC1.out u0 Bu0.out).mono ?_
        rintro e u7 ⟨v7, rfl, hR7, hb7⟩
        obtain ⟨A7, c7, rfl, hle7, -, -, -⟩ := Ses.R_slots hR7
        go_wp2
        have Bu7 : Hid (Below w5.heap.size w5 u7) := Lib.hid (bl_trans Bu0.out hb7)
        have HR7 := Lib.hid hR7
        have HB7 := Lib.hid hb7
        have Hu7_0 := bl_cell hb7 Hu0_0
        have Hu7_3 := bl_cell hb7 Hu0_3
        have Hu7_4 := bl_cell hb7 Hu0_4
        have Hu7_5 := bl_cell hb7 Hu0_5
        have Hu7_6 := bl_cell hb7 Hu0_6
        have Hu7_7 := bl_cell hb7 Hu0_7
        refine hK.out _ _ ⟨Hu7_0, Hu7_3, Hu7_4, Hu7_5, Hu7_6, Hu7_7⟩ (fun hHeld => ?_)
        clear hK K hR7 hb7
        try simp only [Act.put, List.getElem_toArray, List.getElem_cons_succ, List.getElem_cons_zero, List.setIfInBounds_toArray, List.set_cons_zero, List.set_cons_succ]
        refine wpAnyH_ready (rs := [9, 18]) (by kernel_rfl) (by simp) ?_
        refine AllReadyH.cons (o := _) rfl (fun K hK => ?_) ?_
        · go_simp
          go_at_call 17
          refine (HC2.out u7 Bu7.out).mono ?_
          rintro e u8 ⟨v8, rfl, hR8, hb8⟩
          obtain ⟨A8, c8, rfl, hle8, -, -, -⟩ := Ses.R_slots hR8
          go_wp2
          have Bu8 : Hid (Below w5.heap.size w5 u8) := Lib.hid (bl_trans Bu7.out hb8)
          have HR8 := Lib.hid hR8
          have HB8 := Lib.hid hb8
          have Hu8_0 := bl_cell hb8 Hu7_0
          have Hu8_3 := bl_cell hb8 Hu7_3
          have Hu8_4 := bl_cell hb8 Hu7_4
          have Hu8_5 := bl_cell hb8 Hu7_5
          have Hu8_6 := bl_cell hb8 Hu7_6
          have Hu8_7 := bl_cell hb8 Hu7_7
          refine hK.out _ _ ⟨Hu8_0, Hu8_3, Hu8_4, Hu8_5, Hu8_6, Hu8_7⟩ (fun hHeld => ?_)
          clear hK K hR8 hb8
          try simp only [Act.put, List.getElem_toArray, List.getElem_cons_succ, List.getElem_cons_zero, List.setIfInBounds_toArray, List.set_cons_zero, List.set_cons_succ]
          refine wpAnyH_take (i := 17) (v := ?_) rfl (by kernel_rfl) (by kernel_rfl) (by kernel_rfl) (fun _ _ _ h => h) (Or.inl ⟨by rfl, ?_⟩) (by assumption) ?_
          rotate_left
          · intro w hSw
            obtain ⟨hs0, hs1, hs2, hs3, hs4, hs5⟩ := hSw
            go_simp
            try (with_reducible rfl)
          try simp only [Act.put, List.getElem_toArray, List.getElem_cons_succ, List.getElem_cons_zero, List.setIfInBounds_toArray, List.set_cons_zero, List.set_cons_succ]
          refine wpAnyH_ready (rs := [18]) (by kernel_rfl) (by simp) ?_
          refine AllReadyH.cons (o := _) rfl (fun K hK => ?_) ?_
          · go_simp
            refine hK.out _ _ ⟨cell_alloc _ Hu8_0, cell_alloc _ Hu8_3, cell_alloc _ Hu8_4, cell_alloc _ Hu8_5, cell_alloc _ Hu8_6, cell_alloc _ Hu8_7⟩ (fun hHeld => ?_)
            clear hK K
            try simp only [Act.put, List.getElem_toArray, List.getElem_cons_succ, List.getElem_cons_zero, List.setIfInBounds_toArray, List.set_cons_zero, List.set_cons_succ]
            have zb : ((u8).alloc (.cells #[.int .i64 0, .slice none 0 0, .slice none 0 0, .int .i64 0, .int .u64 0, .int .u8 0, .int .u8 0, .bool false, .bool false] 29)).heap[(u8).heap.size]? = some (.cells #[.int .i64 0, .slice none 0 0, .slice none 0 0, .int .i64 0, .int .u64 0, .int .u8 0, .int .u8 0, .bool false, .bool false] 29 (0, 0)) := xb_new _ _
            have Bu9 : Hid (Below w5.heap.size w5 ((u8).alloc (.cells #[.int .i64 0, .slice none 0 0, .slice none 0 0, .int .i64 0, .int .u64 0, .int .u8 0, .int .u8 0, .bool false, .bool false] 29))) := Lib.hid (below_alloc Bu8.out _)
            have hzu9 : (u8).heap.size < ((u8).alloc (.cells #[.int .i64 0, .slice none 0 0, .slice none 0 0, .int .i64 0, .int .u64 0, .int .u8 0, .int .u8 0, .bool false, .bool false] 29)).heap.size := by rw [World.size_alloc]; exact Nat.lt_succ_self _
            have hwu9 : Hid (Below (u8).heap.size u8 ((u8).alloc (.cells #[.int .i64 0, .slice none 0 0, .slice none 0 0, .int .i64 0, .int .u64 0, .int .u8 0, .int .u8 0, .bool false, .bool false] 29))) := Lib.hid (below_alloc (Below.refl _ _) _)
            have Hu9_0 := cell_alloc (.cells #[.int .i64 0, .slice none 0 0, .slice none 0 0, .int .i64 0, .int .u64 0, .int .u8 0, .int .u8 0, .bool false, .bool false] 29) Hu8_0
            have Hu9_3 := cell_alloc (.cells #[.int .i64 0, .slice none 0 0, .slice none 0 0, .int .i64 0, .int .u64 0, .int .u8 0, .int .u8 0, .bool false, .bool false] 29) Hu8_3
            have Hu9_4 := cell_alloc (.cells #[.int .i64 0, .slice none 0 0, .slice none 0 0, .int .i64 0, .int .u64 0, .int .u8 0, .int .u8 0, .bool false, .bool false] 29) Hu8_4
            have Hu9_5 := cell_alloc (.cells #[.int .i64 0, .slice none 0 0, .slice none 0 0, .int .i64 0, .int .u64 0, .int .u8 0, .int .u8 0, .bool false, .bool false] 29) Hu8_5
            have Hu9_6 := cell_alloc (.cells #[.int .i64 0, .slice none 0 0, .slice none 0 0, .int .i64 0, .int .u64 0, .int .u8 0, .int .u8 0, .bool false, .bool false] 29) Hu8_6
            have Hu9_7 := cell_alloc (.cells #[.int .i64 0, .slice none 0 0, .slice none 0 0, .int .i64 0, .int .u64 0, .int .u8 0, .int .u8 0, .bool false, .bool false] 29) Hu8_7
            generalize (u8).alloc (.cells #[.int .i64 0, .slice none 0 0, .slice none 0 0, .int .i64 0, .int .u64 0, .int .u8 0, .int .u8 0, .bool false, .bool false] 29) = u9 at *
            refine wpAnyH_ready (rs := [19]) (by kernel_rfl) (by simp) ?_
            refine AllReadyH.cons (o := _) rfl (fun K hK => ?_) ?_
            · have hn9 : wr.heap.size ≠ u8.heap.size := by (have := HS5.out; have := Bu8.out.size; omega)
              refine wp_store_mid 29 (.tmp 8) (.tmp 37) rfl (u8.heap.size) 0 #[.int .i64 (kd % 6), .slice A7 data.length c7, .slice A8 other.length c8, .int .i64 0, .int .u64 0, .int .u8 sz, .int .u8 flag, .bool pb, .bool pc] rfl rfl (Ses.there9 zb) inf29s (by simp [Value.oneCell']) ?_
              refine hK.out _ _ ⟨(Ses.cell_setCells _ hn9).trans Hu9_0, (Ses.cell_setCells _ hn9).trans Hu9_3, (Ses.cell_setCells _ hn9).trans Hu9_4, (Ses.cell_setCells _ hn9).trans Hu9_5, (Ses.cell_setCells _ hn9).trans Hu9_6, (Ses.cell_setCells _ hn9).trans Hu9_7⟩ (fun hHeld => ?_)
              clear hK K
              try simp only [Act.put, List.getElem_toArray, List.getElem_cons_succ, List.getElem_cons_zero, List.setIfInBounds_toArray, List.set_cons_zero, List.set_cons_succ]
              refine wpAnyH_done (by kernel_rfl) ?_ _
              refine NoPanic.normal ?_
              have ZB := Ses.block9 zb (v0 := .int .i64 (kd % 6)) (v1 := .slice A7 data.length c7) (v2 := .slice A8 other.length c8) (v3 := .int .i64 0) (v4 := .int .u64 0) (v5 := .int .u8 sz) (v6 := .int .u8 flag) (v7 := .bool pb) (v8 := .bool pc)
              have hb9 : w5.heap.size ≤ u8.heap.size := by (have := HS5.out; have := Bu8.out.size; omega)
              have HB9 : Hid (Below w5.heap.size w5 ((u9).setCells (u8.heap.size) 0 [.int .i64 (kd % 6), .slice A7 data.length c7, .slice A8 other.length c8, .int .i64 0, .int .u64 0, .int .u8 sz, .int .u8 flag, .bool pb, .bool pc])) := Lib.hid (Ses.below_setCells _ Bu9.out hb9)
              have HR7' : Hid (Kd.R (Kd.int .u8) 5 ((u9).setCells (u8.heap.size) 0 [.int .i64 (kd % 6), .slice A7 data.length c7, .slice A8 other.length c8, .int .i64 0, .int .u64 0, .int .u8 sz, .int .u8 flag, .bool pb, .bool pc]) w5.heap.size (fun _ => True) (.slice A7 data.length c7) data) := Lib.hid (Kd.R_lower (Ses.R_setCells _ 0 (Kd.R_below HR7.out (bl_trans HB8.out hwu9.out)) (fun k hk => by have a1 := Kd.R_base HR7.out k hk; have a2 := Kd.R_lt HR7.out k hk; have a3 := HB7.out.size; have a4 := HB8.out.size; omega)) (by have a3 := HB7.out.size; have a4 := HB8.out.size; have a5 := Bu0.out.size; omega))
              have HR8' : Hid (Kd.R (Kd.int .u8) 5 ((u9).setCells (u8.heap.size) 0 [.int .i64 (kd % 6), .slice A7 data.length c7, .slice A8 other.length c8, .int .i64 0, .int .u64 0, .int .u8 sz, .int .u8 flag, .bool pb, .bool pc]) w5.heap.size (fun _ => True) (.slice A8 other.length c8) other) := Lib.hid (Kd.R_lower (Ses.R_setCells _ 0 (Kd.R_below HR8.out hwu9.out) (fun k hk => by have a1 := Kd.R_base HR8.out k hk; have a2 := Kd.R_lt HR8.out k hk; have a3 := HB7.out.size; have a4 := HB8.out.size; omega)) (by have a3 := HB7.out.size; have a4 := HB8.out.size; have a5 := Bu0.out.size; omega))
              have HN7 : Hid (∀ k, (Value.slice A7 data.length c7).ownBlock = some k → k ≠ u8.heap.size) := Lib.hid (fun k hk => by have a1 := Kd.R_base HR7.out k hk; have a2 := Kd.R_lt HR7.out k hk; have a3 := HB7.out.size; have a4 := HB8.out.size; omega)
              have HN8 : Hid (∀ k, (Value.slice A8 other.length c8).ownBlock = some k → k ≠ u8.heap.size) := Lib.hid (fun k hk => by have a1 := Kd.R_base HR8.out k hk; have a2 := Kd.R_lt HR8.out k hk; have a3 := HB7.out.size; have a4 := HB8.out.size; omega)
              generalize (u9).setCells (u8.heap.size) 0 [.int .i64 (kd % 6), .slice A7 data.length c7, .slice A8 other.length c8, .int .i64 0, .int .u64 0, .int .u8 sz, .int .u8 flag, .bool pb, .bool pc] = w9 at *
              clear HB7 HB8 HR7 HR8 zb hn9 hHeld
              have z0 := xb_cell ZB 0
              have z1 := xb_cell ZB 1
              have z2 := xb_cell ZB 2
              have z3 := xb_cell ZB 3
              have z4 := xb_cell ZB 4
              have z5 := xb_cell ZB 5
              have z6 := xb_cell ZB 6
              have z7 := xb_cell ZB 7
              have z8 := xb_cell ZB 8
              have f3 := blk_free ZB 3
              have f4 := blk_free ZB 4
              simp only [List.getElem?_toArray, List.getElem?_cons_zero, List.getElem?_cons_succ] at z0 z1 z2 z3 z4 z5 z6 z7 z8
              have HW9 : Hid (Below wr.heap.size wr w9) := Lib.hid (bl_trans HB6.out HB9.out)
              rcases Classical.em (kd % 6 = 2) with hk2 | hk2
              · have t3 : decide (kd % 6 = 2) = true := decide_eq_true hk2
                have t4 : decide (kd % 6 = 3) = false := decide_eq_false (by omega)
                have tw : IntKind.i64.wrap nm = nm := (IntKind.wrap_i64 _).trans (by have := m2 hk2; omega)
                have HWx : Hid (Below wr.heap.size wr (w9.setCell ⟨u8.heap.size, 3, none⟩ (.int .i64 nm))) := Lib.hid (HW9.out.setCell (p := ⟨u8.heap.size, 3, none⟩) (show wr.heap.size ≤ u8.heap.size by have := HS5.out; omega) (.int .i64 nm))
                have HRx7 : Hid (Kd.R (Kd.int .u8) 5 (w9.setCell ⟨u8.heap.size, 3, none⟩ (.int .i64 nm)) w.heap.size (fun k => wr.heap.size ≤ k) (.slice A7 data.length c7) data) := Lib.hid (Ses.R_low (show Ses.DataB w5.heap.size data (w9.setCell ⟨u8.heap.size, 3, none⟩ (.int .i64 nm)) (.slice A7 data.length c7) from (Ses.R_setCells [.int .i64 nm] 3 HR7'.out HN7.out)) ⟨HB.out.size, by have := HS5.out; omega⟩)
                have HRx8 : Hid (Kd.R (Kd.int .u8) 5 (w9.setCell ⟨u8.heap.size, 3, none⟩ (.int .i64 nm)) w.heap.size (fun k => wr.heap.size ≤ k) (.slice A8 other.length c8) other) := Lib.hid (Ses.R_low (show Ses.DataB w5.heap.size other (w9.setCell ⟨u8.heap.size, 3, none⟩ (.int .i64 nm)) (.slice A8 other.length c8) from (Ses.R_setCells [.int .i64 nm] 3 HR8'.out HN8.out)) ⟨HB.out.size, by have := HS5.out; omega⟩)
                go_wp2_with ((with_reducible refine gate_builtin (b := .append) (xs := #[.tmp 49, .tmp 51]) rfl ?_); at_builtin; refine Kd.R_append Ses.psKd (w0 := w) w.heap.size rfl (.tmp 49) (.tmp 51) 30 29 _ 80 rfl Tryd.underlying30 inf29 rfl (by decide) (by decide) u3 ((ps.take j).map Ses.conv) ⟨2, data, other, nm, 0, sz, flag, pb, pc⟩ [.int .i64 2, .slice A7 data.length c7, .slice A8 other.length c8, .int .i64 nm, .int .u64 0, .int .u8 sz, .int .u8 flag, .bool pb, .bool pc] (fun _ => True) (fun k => wr.heap.size ≤ k) ?aV ?aX ?aP ?aK (fun _ _ => trivial) ?aO ?aB ?aS ?aL ?_; (case aV => exact rfl); (case aX => first | exact rfl | (rw [World.size_setCell]; exact rfl)); (case aP => exact Ses.ps_make (p := ⟨2, data, other, nm, 0, sz, flag, pb, pc⟩) HRx7.out HRx8.out); (case aK => exact fun k hk => ⟨trivial, fun e => by have := Kd.R_lt HO.out k e.symm; omega⟩); (case aO => exact Kd.R_below HO.out HWx.out); (case aB => exact HB.out.trans (HWx.out.mono HB.out.size)); (case aS => exact (HB.out.trans (HWx.out.mono HB.out.size)).size); (case aL => (rw [List.length_map, List.length_take]; omega)); intro v10 w10 ho hb hg hat; have HO10 := Lib.hid ho; have HB10 := Lib.hid hb; clear ho hb hg hat)
                go_roundw
                case measure => simp [intOf]; omega
                case rel =>
                  refine ⟨j + 1, by go_num, by omega, Lib.hid ?_, HB10⟩
                  rw [take_map HP.out, show Ses.conv ⟨kd, size, num, pb, pc, flag, data, other⟩ = ⟨2, data, other, nm, 0, sz, flag, pb, pc⟩ from by simp only [Ses.conv, hk2, ← HNm.out, ← HSz'.out]; try simp]
                  exact HO10.out
              rcases Classical.em (kd % 6 = 3) with hk3 | hk3
              · have t3 : decide (kd % 6 = 2) = false := decide_eq_false hk2
                have t4 : decide (kd % 6 = 3) = true := decide_eq_true hk3
                have HWx : Hid (Below wr.heap.size wr (w9.setCell ⟨u8.heap.size, 4, none⟩ (.int .u64 nm))) := Lib.hid (HW9.out.setCell (p := ⟨u8.heap.size, 4, none⟩) (show wr.heap.size ≤ u8.heap.size by have := HS5.out; omega) (.int .u64 nm))
                have HRx7 : Hid (Kd.R (Kd.int .u8) 5 (w9.setCell ⟨u8.heap.size, 4, none⟩ (.int .u64 nm)) w.heap.size (fun k => wr.heap.size ≤ k) (.slice A7 data.length c7) data) := Lib.hid (Ses.R_low (show Ses.DataB w5.heap.size data (w9.setCell ⟨u8.heap.size, 4, none⟩ (.int .u64 nm)) (.slice A7 data.length c7) from (Ses.R_setCells [.int .u64 nm] 4 HR7'.out HN7.out)) ⟨HB.out.size, by have := HS5.out; omega⟩)
                have HRx8 : Hid (Kd.R (Kd.int .u8) 5 (w9.setCell ⟨u8.heap.size, 4, none⟩ (.int .u64 nm)) w.heap.size (fun k => wr.heap.size ≤ k) (.slice A8 other.length c8) other) := Lib.hid (Ses.R_low (show Ses.DataB w5.heap.size other (w9.setCell ⟨u8.heap.size, 4, none⟩ (.int .u64 nm)) (.slice A8 other.length c8) from (Ses.R_setCells [.int .u64 nm] 4 HR8'.out HN8.out)) ⟨HB.out.size, by have := HS5.out; omega⟩)
                go_wp2_with ((with_reducible refine gate_builtin (b := .append) (xs := #[.tmp 49, .tmp 51]) rfl ?_); at_builtin; refine Kd.R_append Ses.psKd (w0 := w) w.heap.size rfl (.tmp 49) (.tmp 51) 30 29 _ 80 rfl Tryd.underlying30 inf29 rfl (by decide) (by decide) u3 ((ps.take j).map Ses.conv) ⟨3, data, other, 0, nm, sz, flag, pb, pc⟩ [.int .i64 3, .slice A7 data.length c7, .slice A8 other.length c8, .int .i64 0, .int .u64 nm, .int .u8 sz, .int .u8 flag, .bool pb, .bool pc] (fun _ => True) (fun k => wr.heap.size ≤ k) ?aV ?aX ?aP ?aK (fun _ _ => trivial) ?aO ?aB ?aS ?aL ?_; (case aV => exact rfl); (case aX => first | exact rfl | (rw [World.size_setCell]; exact rfl)); (case aP => exact Ses.ps_make (p := ⟨3, data, other, 0, nm, sz, flag, pb, pc⟩) HRx7.out HRx8.out); (case aK => exact fun k hk => ⟨trivial, fun e => by have := Kd.R_lt HO.out k e.symm; omega⟩); (case aO => exact Kd.R_below HO.out HWx.out); (case aB => exact HB.out.trans (HWx.out.mono HB.out.size)); (case aS => exact (HB.out.trans (HWx.out.mono HB.out.size)).size); (case aL => (rw [List.length_map, List.length_take]; omega)); intro v10 w10 ho hb hg hat; have HO10 := Lib.hid ho; have HB10 := Lib.hid hb; clear ho hb hg hat)
                go_roundw
                case measure => simp [intOf]; omega
                case rel =>
                  refine ⟨j + 1, by go_num, by omega, Lib.hid ?_, HB10⟩
                  rw [take_map HP.out, show Ses.conv ⟨kd, size, num, pb, pc, flag, data, other⟩ = ⟨3, data, other, 0, nm, sz, flag, pb, pc⟩ from by simp only [Ses.conv, hk3, ← HNm.out, ← HSz'.out]; try simp]
                  exact HO10.out
              have t3 : decide (kd % 6 = 2) = false := decide_eq_false hk2
              have t4 : decide (kd % 6 = 3) = false := decide_eq_false hk3
              have HWx : Hid (Below wr.heap.size wr w9) := Lib.hid HW9.out
              have HRx7 : Hid (Kd.R (Kd.int .u8) 5 w9 w.heap.size (fun k => wr.heap.size ≤ k) (.slice A7 data.length c7) data) := Lib.hid (Ses.R_low (show Ses.DataB w5.heap.size data w9 (.slice A7 data.length c7) from HR7'.out) ⟨HB.out.size, by have := HS5.out; omega⟩)
              have HRx8 : Hid (Kd.R (Kd.int .u8) 5 w9 w.heap.size (fun k => wr.heap.size ≤ k) (.slice A8 other.length c8) other) := Lib.hid (Ses.R_low (show Ses.DataB w5.heap.size other w9 (.slice A8 other.length c8) from HR8'.out) ⟨HB.out.size, by have := HS5.out; omega⟩)
              go_wp2_with ((with_reducible refine gate_builtin (b := .append) (xs := #[.tmp 49, .tmp 51]) rfl ?_); at_builtin; refine Kd.R_append Ses.psKd (w0 := w) w.heap.size rfl (.tmp 49) (.tmp 51) 30 29 _ 80 rfl Tryd.underlying30 inf29 rfl (by decide) (by decide) u3 ((ps.take j).map Ses.conv) ⟨kd % 6, data, other, 0, 0, sz, flag, pb, pc⟩ [.int .i64 (kd % 6), .slice A7 data.length c7, .slice A8 other.length c8, .int .i64 0, .int .u64 0, .int .u8 sz, .int .u8 flag, .bool pb, .bool pc] (fun _ => True) (fun k => wr.heap.size ≤ k) ?aV ?aX ?aP ?aK (fun _ _ => trivial) ?aO ?aB ?aS ?aL ?_; (case aV => exact rfl); (case aX => first | exact rfl | (rw [World.size_setCell]; exact rfl)); (case aP => exact Ses.ps_make (p := ⟨kd % 6, data, other, 0, 0, sz, flag, pb, pc⟩) HRx7.out HRx8.out); (case aK => exact fun k hk => ⟨trivial, fun e => by have := Kd.R_lt HO.out k e.symm; omega⟩); (case aO => exact Kd.R_below HO.out HWx.out); (case aB => exact HB.out.trans (HWx.out.mono HB.out.size)); (case aS => exact (HB.out.trans (HWx.out.mono HB.out.size)).size); (case aL => (rw [List.length_map, List.length_take]; omega)); intro v10 w10 ho hb hg hat; have HO10 := Lib.hid ho; have HB10 := Lib.hid hb; clear ho hb hg hat)
              go_roundw
              case measure => simp [intOf]; omega
              case rel =>
                refine ⟨j + 1, by go_num, by omega, Lib.hid ?_, HB10⟩
                rw [take_map HP.out, show Ses.conv ⟨kd, size, num, pb, pc, flag, data, other⟩ = ⟨kd % 6, data, other, 0, 0, sz, flag, pb, pc⟩ from by simp only [Ses.conv, if_neg hk2, if_neg hk3, ← HNm.out, ← HSz'.out]; try simp]
                exact HO10.out
            exact AllReadyH.nil
          exact AllReadyH.nil
        refine AllReadyH.cons (o := _) rfl (fun K hK => ?_) ?_
        · go_simp
          refine hK.out _ _ ⟨cell_alloc _ Hu7_0, cell_alloc _ Hu7_3, cell_alloc _ Hu7_4, cell_alloc _ Hu7_5, cell_alloc _ Hu7_6, cell_alloc _ Hu7_7⟩ (fun hHeld => ?_)
          clear hK K
          try simp only [Act.put, List.getElem_toArray, List.getElem_cons_succ, List.getElem_cons_zero, List.setIfInBounds_toArray, List.set_cons_zero, List.set_cons_succ]
          have zb : ((u7).alloc (.cells #[.int .i64 0, .slice none 0 0, .slice none 0 0, .int .i64 0, .int .u64 0, .int .u8 0, .int .u8 0, .bool false, .bool false] 29)).heap[(u7).heap.size]? = some (.cells #[.int .i64 0, .slice none 0 0, .slice none 0 0, .int .i64 0, .int .u64 0, .int .u8 0, .int .u8 0, .bool false, .bool false] 29 (0, 0)) := xb_new _ _
          have Bu9 : Hid (Below w5.heap.size w5 ((u7).alloc (.cells #[.int .i64 0, .slice none 0 0, .slice none 0 0, .int .i64 0, .int .u64 0, .int .u8 0, .int .u8 0, .bool false, .bool false] 29))) := Lib.hid (below_alloc Bu7.out _)
          have hzu9 : (u7).heap.size < ((u7).alloc (.cells #[.int .i64 0, .slice none 0 0, .slice none 0 0, .int .i64 0, .int .u64 0, .int .u8 0, .int .u8 0, .bool false, .bool false] 29)).heap.size := by rw [World.size_alloc]; exact Nat.lt_succ_self _
          have hwu9 : Hid (Below (u7).heap.size u7 ((u7).alloc (.cells #[.int .i64 0, .slice none 0 0, .slice none 0 0, .int .i64 0, .int .u64 0, .int .u8 0, .int .u8 0, .bool false, .bool false] 29))) := Lib.hid (below_alloc (Below.refl _ _) _)
          have Hu9_0 := cell_alloc (.cells #[.int .i64 0, .slice none 0 0, .slice none 0 0, .int .i64 0, .int .u64 0, .int .u8 0, .int .u8 0, .bool false, .bool false] 29) Hu7_0
          have Hu9_3 := cell_alloc (.cells #[.int .i64 0, .slice none 0 0, .slice none 0 0, .int .i64 0, .int .u64 0, .int .u8 0, .int .u8 0, .bool false, .bool false] 29) Hu7_3
          have Hu9_4 := cell_alloc (.cells #[.int .i64 0, .slice none 0 0, .slice none 0 0, .int .i64 0, .int .u64 0, .int .u8 0, .int .u8 0, .bool false, .bool false] 29) Hu7_4
          have Hu9_5 := cell_alloc (.cells #[.int .i64 0, .slice none 0 0, .slice none 0 0, .int .i64 0, .int .u64 0, .int .u8 0, .int .u8 0, .bool false, .bool false] 29) Hu7_5
          have Hu9_6 := cell_alloc (.cells #[.int .i64 0, .slice none 0 0, .slice none 0 0, .int .i64 0, .int .u64 0, .int .u8 0, .int .u8 0, .bool false, .bool false] 29) Hu7_6
          have Hu9_7 := cell_alloc (.cells #[.int .i64 0, .slice none 0 0, .slice none 0 0, .int .i64 0, .int .u64 0, .int .u8 0, .int .u8 0, .bool false, .bool false] 29) Hu7_7
          generalize (u7).alloc (.cells #[.int .i64 0, .slice none 0 0, .slice none 0 0, .int .i64 0, .int .u64 0, .int .u8 0, .int .u8 0, .bool false, .bool false] 29) = u9 at *
          refine wpAnyH_ready (rs := [9]) (by kernel_rfl) (by simp) ?_
          refine AllReadyH.cons (o := _) rfl (fun K hK => ?_) ?_
          · go_simp
            go_at_call 17
            refine (HC2.out u9 Bu9.out).mono ?_
            rintro e u8 ⟨v8, rfl, hR8, hb8⟩
            obtain ⟨A8, c8, rfl, hle8, -, -, -⟩ := Ses.R_slots hR8
            go_wp2
            have Bu8 : Hid (Below w5.heap.size w5 u8) := Lib.hid (bl_trans Bu9.out hb8)
            have HR8 := Lib.hid hR8
            have HB8 := Lib.hid hb8
            have Hu8_0 := bl_cell hb8 Hu9_0
            have Hu8_3 := bl_cell hb8 Hu9_3
            have Hu8_4 := bl_cell hb8 Hu9_4
            have Hu8_5 := bl_cell hb8 Hu9_5
            have Hu8_6 := bl_cell hb8 Hu9_6
            have Hu8_7 := bl_cell hb8 Hu9_7
            replace zb := blk_bl zb hb8 (xb_lt zb)
            refine hK.out _ _ ⟨Hu8_0, Hu8_3, Hu8_4, Hu8_5, Hu8_6, Hu8_7⟩ (fun hHeld => ?_)
            clear hK K hR8 hb8
            try simp only [Act.put, List.getElem_toArray, List.getElem_cons_succ, List.getElem_cons_zero, List.setIfInBounds_toArray, List.set_cons_zero, List.set_cons_succ]
            refine wpAnyH_take (i := 17) (v := ?_) rfl (by kernel_rfl) (by kernel_rfl) (by kernel_rfl) (fun _ _ _ h => h) (Or.inl ⟨by rfl, ?_⟩) (by assumption) ?_
            rotate_left
            · intro w hSw
              obtain ⟨hs0, hs1, hs2, hs3, hs4, hs5⟩ := hSw
              go_simp
              try (with_reducible rfl)
            try simp only [Act.put, List.getElem_toArray, List.getElem_cons_succ, List.getElem_cons_zero, List.setIfInBounds_toArray, List.set_cons_zero, List.set_cons_succ]
            refine wpAnyH_ready (rs := [19]) (by kernel_rfl) (by simp) ?_
            refine AllReadyH.cons (o := _) rfl (fun K hK => ?_) ?_
            · have hn9 : wr.heap.size ≠ u7.heap.size := by (have := HS5.out; have := Bu7.out.size; omega)
              refine wp_store_mid 29 (.tmp 8) (.tmp 37) rfl (u7.heap.size) 0 #[.int .i64 (kd % 6), .slice A7 data.length c7, .slice A8 other.length c8, .int .i64 0, .int .u64 0, .int .u8 sz, .int .u8 flag, .bool pb, .bool pc] rfl rfl (Ses.there9 zb) inf29s (by simp [Value.oneCell']) ?_
              refine hK.out _ _ ⟨(Ses.cell_setCells _ hn9).trans Hu8_0, (Ses.cell_setCells _ hn9).trans Hu8_3, (Ses.cell_setCells _ hn9).trans Hu8_4, (Ses.cell_setCells _ hn9).trans Hu8_5, (Ses.cell_setCells _ hn9).trans Hu8_6, (Ses.cell_setCells _ hn9).trans Hu8_7⟩ (fun hHeld => ?_)
              clear hK K
              try simp only [Act.put, List.getElem_toArray, List.getElem_cons_succ, List.getElem_cons_zero, List.setIfInBounds_toArray, List.set_cons_zero, List.set_cons_succ]
              refine wpAnyH_done (by kernel_rfl) ?_ _
              refine NoPanic.normal ?_
              have ZB := Ses.block9 zb (v0 := .int .i64 (kd % 6)) (v1 := .slice A7 data.length c7) (v2 := .slice A8 other.length c8) (v3 := .int .i64 0) (v4 := .int .u64 0) (v5 := .int .u8 sz) (v6 := .int .u8 flag) (v7 := .bool pb) (v8 := .bool pc)
              have hb9 : w5.heap.size ≤ u7.heap.size := by (have := HS5.out; have := Bu7.out.size; omega)
              have HB9 : Hid (Below w5.heap.size w5 ((u8).setCells (u7.heap.size) 0 [.int .i64 (kd % 6), .slice A7 data.length c7, .slice A8 other.length c8, .int .i64 0, .int .u64 0, .int .u8 sz, .int .u8 flag, .bool pb, .bool pc])) := Lib.hid (Ses.below_setCells _ Bu8.out hb9)
              have HR7' : Hid (Kd.R (Kd.int .u8) 5 ((u8).setCells (u7.heap.size) 0 [.int .i64 (kd % 6), .slice A7 data.length c7, .slice A8 other.length c8, .int .i64 0, .int .u64 0, .int .u8 sz, .int .u8 flag, .bool pb, .bool pc]) w5.heap.size (fun _ => True) (.slice A7 data.length c7) data) := Lib.hid (Kd.R_lower (Ses.R_setCells _ 0 (Kd.R_below HR7.out (bl_trans hwu9.out HB8.out)) (fun k hk => by have a1 := Kd.R_base HR7.out k hk; have a2 := Kd.R_lt HR7.out k hk; have a3 := HB7.out.size; have a4 := HB8.out.size; omega)) (by have a3 := HB7.out.size; have a4 := HB8.out.size; have a5 := Bu0.out.size; omega))
              have HR8' : Hid (Kd.R (Kd.int .u8) 5 ((u8).setCells (u7.heap.size) 0 [.int .i64 (kd % 6), .slice A7 data.length c7, .slice A8 other.length c8, .int .i64 0, .int .u64 0, .int .u8 sz, .int .u8 flag, .bool pb, .bool pc]) w5.heap.size (fun _ => True) (.slice A8 other.length c8) other) := Lib.hid (Kd.R_lower (Ses.R_setCells _ 0 HR8.out (fun k hk => by have a1 := Kd.R_base HR8.out k hk; have a2 := Kd.R_lt HR8.out k hk; have a3 := HB7.out.size; have a4 := HB8.out.size; omega)) (by have a3 := HB7.out.size; have a4 := HB8.out.size; have a5 := Bu0.out.size; omega))
              have HN7 : Hid (∀ k, (Value.slice A7 data.length c7).ownBlock = some k → k ≠ u7.heap.size) := Lib.hid (fun k hk => by have a1 := Kd.R_base HR7.out k hk; have a2 := Kd.R_lt HR7.out k hk; have a3 := HB7.out.size; have a4 := HB8.out.size; omega)
              have HN8 : Hid (∀ k, (Value.slice A8 other.length c8).ownBlock = some k → k ≠ u7.heap.size) := Lib.hid (fun k hk => by have a1 := Kd.R_base HR8.out k hk; have a2 := Kd.R_lt HR8.out k hk; have a3 := HB7.out.size; have a4 := HB8.out.size; omega)
              generalize (u8).setCells (u7.heap.size) 0 [.int .i64 (kd % 6), .slice A7 data.length c7, .slice A8 other.length c8, .int .i64 0, .int .u64 0, .int .u8 sz, .int .u8 flag, .bool pb, .bool pc] = w9 at *
              clear HB7 HB8 HR7 HR8 zb hn9 hHeld
              have z0 := xb_cell ZB 0
              have z1 := xb_cell ZB 1
              have z2 := xb_cell ZB 2
              have z3 := xb_cell ZB 3
              have z4 := xb_cell ZB 4
              have z5 := xb_cell ZB 5
              have z6 := xb_cell ZB 6
              have z7 := xb_cell ZB 7
              have z8 := xb_cell ZB 8
              have f3 := blk_free ZB 3
              have f4 := blk_free ZB 4
              simp only [List.getElem?_toArray, List.getElem?_cons_zero, List.getElem?_cons_succ] at z0 z1 z2 z3 z4 z5 z6 z7 z8
              have HW9 : Hid (Below wr.heap.size wr w9) := Lib.hid (bl_trans HB6.out HB9.out)
              rcases Classical.em (kd % 6 = 2) with hk2 | hk2
              · have t3 : decide (kd % 6 = 2) = true := decide_eq_true hk2
                have t4 : decide (kd % 6 = 3) = false := decide_eq_false (by omega)
                have tw : IntKind.i64.wrap nm = nm := (IntKind.wrap_i64 _).trans (by have := m2 hk2; omega)
                have HWx : Hid (Below wr.heap.size wr (w9.setCell ⟨u7.heap.size, 3, none⟩ (.int .i64 nm))) := Lib.hid (HW9.out.setCell (p := ⟨u7.heap.size, 3, none⟩) (show wr.heap.size ≤ u7.heap.size by have := HS5.out; omega) (.int .i64 nm))
                have HRx7 : Hid (Kd.R (Kd.int .u8) 5 (w9.setCell ⟨u7.heap.size, 3, none⟩ (.int .i64 nm)) w.heap.size (fun k => wr.heap.size ≤ k) (.slice A7 data.length c7) data) := Lib.hid (Ses.R_low (show Ses.DataB w5.heap.size data (w9.setCell ⟨u7.heap.size, 3, none⟩ (.int .i64 nm)) (.slice A7 data.length c7) from (Ses.R_setCells [.int .i64 nm] 3 HR7'.out HN7.out)) ⟨HB.out.size, by have := HS5.out; omega⟩)
                have HRx8 : Hid (Kd.R (Kd.int .u8) 5 (w9.setCell ⟨u7.heap.size, 3, none⟩ (.int .i64 nm)) w.heap.size (fun k => wr.heap.size ≤ k) (.slice A8 other.length c8) other) := Lib.hid (Ses.R_low (show Ses.DataB w5.heap.size other (w9.setCell ⟨u7.heap.size, 3, none⟩ (.int .i64 nm)) (.slice A8 other.length c8) from (Ses.R_setCells [.int .i64 nm] 3 HR8'.out HN8.out)) ⟨HB.out.size, by have := HS5.out; omega⟩)
                go_wp2_with ((with_reducible refine gate_builtin (b := .append) (xs := #[.tmp 49, .tmp 51]) rfl ?_); at_builtin; refine Kd.R_append Ses.psKd (w0 := w) w.heap.size rfl (.tmp 49) (.tmp 51) 30 29 _ 80 rfl Tryd.underlying30 inf29 rfl (by decide) (by decide) u3 ((ps.take j).map Ses.conv) ⟨2, data, other, nm, 0, sz, flag, pb, pc⟩ [.int .i64 2, .slice A7 data.length c7, .slice A8 other.length c8, .int .i64 nm, .int .u64 0, .int .u8 sz, .int .u8 flag, .bool pb, .bool pc] (fun _ => True) (fun k => wr.heap.size ≤ k) ?aV ?aX ?aP ?aK (fun _ _ => trivial) ?aO ?aB ?aS ?aL ?_; (case aV => exact rfl); (case aX => first | exact rfl | (rw [World.size_setCell]; exact rfl)); (case aP => exact Ses.ps_make (p := ⟨2, data, other, nm, 0, sz, flag, pb, pc⟩) HRx7.out HRx8.out); (case aK => exact fun k hk => ⟨trivial, fun e => by have := Kd.R_lt HO.out k e.symm; omega⟩); (case aO => exact Kd.R_below HO.out HWx.out); (case aB => exact HB.out.trans (HWx.out.mono HB.out.size)); (case aS => exact (HB.out.trans (HWx.out.mono HB.out.size)).size); (case aL => (rw [List.length_map, List.length_take]; omega)); intro v10 w10 ho hb hg hat; have HO10 := Lib.hid ho; have HB10 := Lib.hid hb; clear ho hb hg hat)
                go_roundw
                case measure => simp [intOf]; omega
                case rel =>
                  refine ⟨j + 1, by go_num, by omega, Lib.hid ?_, HB10⟩
                  rw [take_map HP.out, show Ses.conv ⟨kd, size, num, pb, pc, flag, data, other⟩ = ⟨2, data, other, nm, 0, sz, flag, pb, pc⟩ from by simp only [Ses.conv, hk2, ← HNm.out, ← HSz'.out]; try simp]
                  exact HO10.out
              rcases Classical.em (kd % 6 = 3) with hk3 | hk3
              · have t3 : decide (kd % 6 = 2) = false := decide_eq_false hk2
                have t4 : decide (kd % 6 = 3) = true := decide_eq_true hk3
                have HWx : Hid (Below wr.heap.size wr (w9.setCell ⟨u7.heap.size, 4, none⟩ (.int .u64 nm))) := Lib.hid (HW9.out.setCell (p := ⟨u7.heap.size, 4, none⟩) (show wr.heap.size ≤ u7.heap.size by have := HS5.out; omega) (.int .u64 nm))
                have HRx7 : Hid (Kd.R (Kd.int .u8) 5 (w9.setCell ⟨u7.heap.size, 4, none⟩ (.int .u64 nm)) w.heap.size (fun k => wr.heap.size ≤ k) (.slice A7 data.length c7) data) := Lib.hid (Ses.R_low (show Ses.DataB w5.heap.size data (w9.setCell ⟨u7.heap.size, 4, none⟩ (.int .u64 nm)) (.slice A7 data.length c7) from (Ses.R_setCells [.int .u64 nm] 4 HR7'.out HN7.out)) ⟨HB.out.size, by have := HS5.out; omega⟩)
                have HRx8 : Hid (Kd.R (Kd.int .u8) 5 (w9.setCell ⟨u7.heap.size, 4, none⟩ (.int .u64 nm)) w.heap.size (fun k => wr.heap.size ≤ k) (.slice A8 other.length c8) other) := Lib.hid (Ses.R_low (show Ses.DataB w5.heap.size other (w9.setCell ⟨u7.heap.size, 4, none⟩ (.int .u64 nm)) (.slice A8 other.length c8) from (Ses.R_setCells [.int .u64 nm] 4 HR8'.out HN8.out)) ⟨HB.out.size, by have := HS5.out; omega⟩)
                go_wp2_with ((with_reducible refine gate_builtin (b := .append) (xs := #[.tmp 49, .tmp 51]) rfl ?_); at_builtin; refine Kd.R_append Ses.psKd (w0 := w) w.heap.size rfl (.tmp 49) (.tmp 51) 30 29 _ 80 rfl Tryd.underlying30 inf29 rfl (by decide) (by decide) u3 ((ps.take j).map Ses.conv) ⟨3, data, other, 0, nm, sz, flag, pb, pc⟩ [.int .i64 3, .slice A7 data.length c7, .slice A8 other.length c8, .int .i64 0, .int .u64 nm, .int .u8 sz, .int .u8 flag, .bool pb, .bool pc] (fun _ => True) (fun k => wr.heap.size ≤ k) ?aV ?aX ?aP ?aK (fun _ _ => trivial) ?aO ?aB ?aS ?aL ?_; (case aV => exact rfl); (case aX => first | exact rfl | (rw [World.size_setCell]; exact rfl)); (case aP => exact Ses.ps_make (p := ⟨3, data, other, 0, nm, sz, flag, pb, pc⟩) HRx7.out HRx8.out); (case aK => exact fun k hk => ⟨trivial, fun e => by have := Kd.R_lt HO.out k e.symm; omega⟩); (case aO => exact Kd.R_below HO.out HWx.out); (case aB => exact HB.out.trans (HWx.out.mono HB.out.size)); (case aS => exact (HB.out.trans (HWx.out.mono HB.out.size)).size); (case aL => (rw [List.length_map, List.length_take]; omega)); intro v10 w10 ho hb hg hat; have HO10 := Lib.hid ho; have HB10 := Lib.hid hb; clear ho hb hg hat)
                go_roundw
                case measure => simp [intOf]; omega
                case rel =>
                  refine ⟨j + 1, by go_num, by omega, Lib.hid ?_, HB10⟩
                  rw [take_map HP.out, show Ses.conv ⟨kd, size, num, pb, pc, flag, data, other⟩ = ⟨3, data, other, 0, nm, sz, flag, pb, pc⟩ from by simp only [Ses.conv, hk3, ← HNm.out, ← HSz'.out]; try simp]
                  exact HO10.out
              have t3 : decide (kd % 6 = 2) = false := decide_eq_false hk2
              have t4 : decide (kd % 6 = 3) = false := decide_eq_false hk3
              have HWx : Hid (Below wr.heap.size wr w9) := Lib.hid HW9.out
              have HRx7 : Hid (Kd.R (Kd.int .u8) 5 w9 w.heap.size (fun k => wr.heap.size ≤ k) (.slice A7 data.length c7) data) := Lib.hid (Ses.R_low (show Ses.DataB w5.heap.size data w9 (.slice A7 data.length c7) from HR7'.out) ⟨HB.out.size, by have := HS5.out; omega⟩)
              have HRx8 : Hid (Kd.R (Kd.int .u8) 5 w9 w.heap.size (fun k => wr.heap.size ≤ k) (.slice A8 other.length c8) other) := Lib.hid (Ses.R_low (show Ses.DataB w5.heap.size other w9 (.slice A8 other.length c8) from HR8'.out) ⟨HB.out.size, by have := HS5.out; omega⟩)
              go_wp2_with ((with_reducible refine gate_builtin (b := .append) (xs := #[.tmp 49, .tmp 51]) rfl ?_); at_builtin; refine Kd.R_append Ses.psKd (w0 := w) w.heap.size rfl (.tmp 49) (.tmp 51) 30 29 _ 80 rfl Tryd.underlying30 inf29 rfl (by decide) (by decide) u3 ((ps.take j).map Ses.conv) ⟨kd % 6, data, other, 0, 0, sz, flag, pb, pc⟩ [.int .i64 (kd % 6), .slice A7 data.length c7, .slice A8 other.length c8, .int .i64 0, .int .u64 0, .int .u8 sz, .int .u8 flag, .bool pb, .bool pc] (fun _ => True) (fun k => wr.heap.size ≤ k) ?aV ?aX ?aP ?aK (fun _ _ => trivial) ?aO ?aB ?aS ?aL ?_; (case aV => exact rfl); (case aX => first | exact rfl | (rw [World.size_setCell]; exact rfl)); (case aP => exact Ses.ps_make (p := ⟨kd % 6, data, other, 0, 0, sz, flag, pb, pc⟩) HRx7.out HRx8.out); (case aK => exact fun k hk => ⟨trivial, fun e => by have := Kd.R_lt HO.out k e.symm; omega⟩); (case aO => exact Kd.R_below HO.out HWx.out); (case aB => exact HB.out.trans (HWx.out.mono HB.out.size)); (case aS => exact (HB.out.trans (HWx.out.mono HB.out.size)).size); (case aL => (rw [List.length_map, List.length_take]; omega)); intro v10 w10 ho hb hg hat; have HO10 := Lib.hid ho; have HB10 := Lib.hid hb; clear ho hb hg hat)
              go_roundw
              case measure => simp [intOf]; omega
              case rel =>
                refine ⟨j + 1, by go_num, by omega, Lib.hid ?_, HB10⟩
                rw [take_map HP.out, show Ses.conv ⟨kd, size, num, pb, pc, flag, data, other⟩ = ⟨kd % 6, data, other, 0, 0, sz, flag, pb, pc⟩ from by simp only [Ses.conv, if_neg hk2, if_neg hk3, ← HNm.out, ← HSz'.out]; try simp]
                exact HO10.out
            exact AllReadyH.nil
          exact AllReadyH.nil
        exact AllReadyH.nil
      refine AllReadyH.cons (o := _) rfl (fun K hK => ?_) ?_
      · go_simp
        refine hK.out _ _ ⟨cell_alloc _ Hu0_0, cell_alloc _ Hu0_3, cell_alloc _ Hu0_4, cell_alloc _ Hu0_5, cell_alloc _ Hu0_6, cell_alloc _ Hu0_7⟩ (fun hHeld => ?_)
        clear hK K
        try simp only [Act.put, List.getElem_toArray, List.getElem_cons_succ, List.getElem_cons_zero, List.setIfInBounds_toArray, List.set_cons_zero, List.set_cons_succ]
        have zb : ((u0).alloc (.cells #[.int .i64 0, .slice none 0 0, .slice none 0 0, .int .i64 0, .int .u64 0, .int .u8 0, .int .u8 0, .bool false, .bool false] 29)).heap[(u0).heap.size]? = some (.cells #[.int .i64 0, .slice none 0 0, .slice none 0 0, .int .i64 0, .int .u64 0, .int .u8 0, .int .u8 0, .bool false, .bool false] 29 (0, 0)) := xb_new _ _
        have Bu9 : Hid (Below w5.heap.size w5 ((u0).alloc (.cells #[.int .i64 0, .slice none 0 0, .slice none 0 0, .int .i64 0, .int .u64 0, .int .u8 0, .int .u8 0, .bool false, .bool false] 29))) := Lib.hid (below_alloc Bu0.out _)
        have hzu9 : (u0).heap.size < ((u0).alloc (.cells #[.int .i64 0, .slice none 0 0, .slice none 0 0, .int .i64 0, .int .u64 0, .int .u8 0, .int .u8 0, .bool false, .bool false] 29)).heap.size := by rw [World.size_alloc]; exact Nat.lt_succ_self _
        have hwu9 : Hid (Below (u0).heap.size u0 ((u0).alloc (.cells #[.int .i64 0, .slice none 0 0, .slice none 0 0, .int .i64 0, .int .u64 0, .int .u8 0, .int .u8 0, .bool false, .bool false] 29))) := Lib.hid (below_alloc (Below.refl _ _) _)
        have Hu9_0 := cell_alloc (.cells #[.int .i64 0, .slice none 0 0, .slice none 0 0, .int .i64 0, .int .u64 0, .int .u8 0, .int .u8 0, .bool false, .bool false] 29) Hu0_0
        have Hu9_3 := cell_alloc (.cells #[.int .i64 0, .slice none 0 0, .slice none 0 0, .int .i64 0, .int .u64 0, .int .u8 0, .int .u8 0, .bool false, .bool false] 29) Hu0_3
        have Hu9_4 := cell_alloc (.cells #[.int .i64 0, .slice none 0 0, .slice none 0 0, .int .i64 0, .int .u64 0, .int .u8 0, .int .u8 0, .bool false, .bool false] 29) Hu0_4
        have Hu9_5 := cell_alloc (.cells #[.int .i64 0, .slice none 0 0, .slice none 0 0, .int .i64 0, .int .u64 0, .int .u8 0, .int .u8 0, .bool false, .bool false] 29) Hu0_5
        have Hu9_6 := cell_alloc (.cells #[.int .i64 0, .slice none 0 0, .slice none 0 0, .int .i64 0, .int .u64 0, .int .u8 0, .int .u8 0, .bool false, .bool false] 29) Hu0_6
        have Hu9_7 := cell_alloc (.cells #[.int .i64 0, .slice none 0 0, .slice none 0 0, .int .i64 0, .int .u64 0, .int .u8 0, .int .u8 0, .bool false, .bool false] 29) Hu0_7
        generalize (u0).alloc (.cells #[.int .i64 0, .slice none 0 0, .slice none 0 0, .int .i64 0, .int .u64 0, .int .u8 0, .int .u8 0, .bool false, .bool false] 29) = u9 at *
        refine wpAnyH_ready (rs := [6]) (by kernel_rfl) (by simp) ?_
        refine AllReadyH.cons (o := _) rfl (fun K hK => ?_) ?_
        · go_simp
          go_at_call 17
          refine (HC1.out u9 Bu9.out).mono ?_
          rintro e u7 ⟨v7, rfl, hR7, hb7⟩
          obtain ⟨A7, c7, rfl, hle7, -, -, -⟩ := Ses.R_slots hR7
          go_wp2
          have Bu7 : Hid (Below w5.heap.size w5 u7) := Lib.hid (bl_trans Bu9.out hb7)
          have HR7 := Lib.hid hR7
          have HB7 := Lib.hid hb7
          have Hu7_0 := bl_cell hb7 Hu9_0
          have Hu7_3 := bl_cell hb7 Hu9_3
          have Hu7_4 := bl_cell hb7 Hu9_4
          have Hu7_5 := bl_cell hb7 Hu9_5
          have Hu7_6 := bl_cell hb7 Hu9_6
          have Hu7_7 := bl_cell hb7 Hu9_7
          replace zb := blk_bl zb hb7 (xb_lt zb)
          refine hK.out _ _ ⟨Hu7_0, Hu7_3, Hu7_4, Hu7_5, Hu7_6, Hu7_7⟩ (fun hHeld => ?_)
          clear hK K hR7 hb7
          try simp only [Act.put, List.getElem_toArray, List.getElem_cons_succ, List.getElem_cons_zero, List.setIfInBounds_toArray, List.set_cons_zero, List.set_cons_succ]
          refine wpAnyH_ready (rs := [9]) (by kernel_rfl) (by simp) ?_
          refine AllReadyH.cons (o := _) rfl (fun K hK => ?_) ?_
          · go_simp
            go_at_call 17
            refine (HC2.out u7 Bu7.out).mono ?_
            rintro e u8 ⟨v8, rfl, hR8, hb8⟩
            obtain ⟨A8, c8, rfl, hle8, -, -, -⟩ := Ses.R_slots hR8
            go_wp2
            have Bu8 : Hid (Below w5.heap.size w5 u8) := Lib.hid (bl_trans Bu7.out hb8)
            have HR8 := Lib.hid hR8
            have HB8 := Lib.hid hb8
            have Hu8_0 := bl_cell hb8 Hu7_0
            have Hu8_3 := bl_cell hb8 Hu7_3
            have Hu8_4 := bl_cell hb8 Hu7_4
            have Hu8_5 := bl_cell hb8 Hu7_5
            have Hu8_6 := bl_cell hb8 Hu7_6
            have Hu8_7 := bl_cell hb8 Hu7_7
            replace zb := blk_bl zb hb8 (xb_lt zb)
            refine hK.out _ _ ⟨Hu8_0, Hu8_3, Hu8_4, Hu8_5, Hu8_6, Hu8_7⟩ (fun hHeld => ?_)
            clear hK K hR8 hb8
            try simp only [Act.put, List.getElem_toArray, List.getElem_cons_succ, List.getElem_cons_zero, List.setIfInBounds_toArray, List.set_cons_zero, List.set_cons_succ]
            refine wpAnyH_take (i := 17) (v := ?_) rfl (by kernel_rfl) (by kernel_rfl) (by kernel_rfl) (fun _ _ _ h => h) (Or.inl ⟨by rfl, ?_⟩) (by assumption) ?_
            rotate_left
            · intro w hSw
              obtain ⟨hs0, hs1, hs2, hs3, hs4, hs5⟩ := hSw
              go_simp
              try (with_reducible rfl)
            try simp only [Act.put, List.getElem_toArray, List.getElem_cons_succ, List.getElem_cons_zero, List.setIfInBounds_toArray, List.set_cons_zero, List.set_cons_succ]
            refine wpAnyH_ready (rs := [19]) (by kernel_rfl) (by simp) ?_
            refine AllReadyH.cons (o := _) rfl (fun K hK => ?_) ?_
            · have hn9 : wr.heap.size ≠ u0.heap.size := by (have := HS5.out; have := Bu0.out.size; omega)
              refine wp_store_mid 29 (.tmp 8) (.tmp 37) rfl (u0.heap.size) 0 #[.int .i64 (kd % 6), .slice A7 data.length c7, .slice A8 other.length c8, .int .i64 0, .int .u64 0, .int .u8 sz, .int .u8 flag, .bool pb, .bool pc] rfl rfl (Ses.there9 zb) inf29s (by simp [Value.oneCell']) ?_
              refine hK.out _ _ ⟨(Ses.cell_setCells _ hn9).trans Hu8_0, (Ses.cell_setCells _ hn9).trans Hu8_3, (Ses.cell_setCells _ hn9).trans Hu8_4, (Ses.cell_setCells _ hn9).trans Hu8_5, (Ses.cell_setCells _ hn9).trans Hu8_6, (Ses.cell_setCells _ hn9).trans Hu8_7⟩ (fun hHeld => ?_)
              clear hK K
              try simp only [Act.put, List.getElem_toArray, List.getElem_cons_succ, List.getElem_cons_zero, List.setIfInBounds_toArray, List.set_cons_zero, List.set_cons_succ]
              refine wpAnyH_done (by kernel_rfl) ?_ _
              refine NoPanic.normal ?_
              have ZB := Ses.block9 zb (v0 := .int .i64 (kd % 6)) (v1 := .slice A7 data.length c7) (v2 := .slice A8 other.length c8) (v3 := .int .i64 0) (v4 := .int .u64 0) (v5 := .int .u8 sz) (v6 := .int .u8 flag) (v7 := .bool pb) (v8 := .bool pc)
              have hb9 : w5.heap.size ≤ u0.heap.size := by (have := HS5.out; have := Bu0.out.size; omega)
              have HB9 : Hid (Below w5.heap.size w5 ((u8).setCells (u0.heap.size) 0 [.int .i64 (kd % 6), .slice A7 data.length c7, .slice A8 other.length c8, .int .i64 0, .int .u64 0, .int .u8 sz, .int .u8 flag, .bool pb, .bool pc])) := Lib.hid (Ses.below_setCells _ Bu8.out hb9)
              have HR7' : Hid (Kd.R (Kd.int .u8) 5 ((u8).setCells (u0.heap.size) 0 [.int .i64 (kd % 6), .slice A7 data.length c7, .slice A8 other.length c8, .int .i64 0, .int .u64 0, .int .u8 sz, .int .u8 flag, .bool pb, .bool pc]) w5.heap.size (fun _ => True) (.slice A7 data.length c7) data) := Lib.hid (Kd.R_lower (Ses.R_setCells _ 0 (Kd.R_below HR7.out HB8.out) (fun k hk => by have a1 := Kd.R_base HR7.out k hk; have a2 := Kd.R_lt HR7.out k hk; have a3 := HB7.out.size; have a4 := HB8.out.size; omega)) (by have a3 := HB7.out.size; have a4 := HB8.out.size; have a5 := Bu0.out.size; omega))
              have HR8' : Hid (Kd.R (Kd.int .u8) 5 ((u8).setCells (u0.heap.size) 0 [.int .i64 (kd % 6), .slice A7 data.length c7, .slice A8 other.length c8, .int .i64 0, .int .u64 0, .int .u8 sz, .int .u8 flag, .bool pb, .bool pc]) w5.heap.size (fun _ => True) (.slice A8 other.length c8) other) := Lib.hid (Kd.R_lower (Ses.R_setCells _ 0 HR8.out (fun k hk => by have a1 := Kd.R_base HR8.out k hk; have a2 := Kd.R_lt HR8.out k hk; have a3 := HB7.out.size; have a4 := HB8.out.size; omega)) (by have a3 := HB7.out.size; have a4 := HB8.out.size; have a5 := Bu0.out.size; omega))
              have HN7 : Hid (∀ k, (Value.slice A7 data.length c7).ownBlock = some k → k ≠ u0.heap.size) := Lib.hid (fun k hk => by have a1 := Kd.R_base HR7.out k hk; have a2 := Kd.R_lt HR7.out k hk; have a3 := HB7.out.size; have a4 := HB8.out.size; omega)
              have HN8 : Hid (∀ k, (Value.slice A8 other.length c8).ownBlock = some k → k ≠ u0.heap.size) := Lib.hid (fun k hk => by have a1 := Kd.R_base HR8.out k hk; have a2 := Kd.R_lt HR8.out k hk; have a3 := HB7.out.size; have a4 := HB8.out.size; omega)
              generalize (u8).setCells (u0.heap.size) 0 [.int .i64 (kd % 6), .slice A7 data.length c7, .slice A8 other.length c8, .int .i64 0, .int .u64 0, .int .u8 sz, .int .u8 flag, .bool pb, .bool pc] = w9 at *
              clear HB7 HB8 HR7 HR8 zb hn9 hHeld
              have z0 := xb_cell ZB 0
              have z1 := xb_cell ZB 1
              have z2 := xb_cell ZB 2
              have z3 := xb_cell ZB 3
              have z4 := xb_cell ZB 4
              have z5 := xb_cell ZB 5
              have z6 := xb_cell ZB 6
              have z7 := xb_cell ZB 7
              have z8 := xb_cell ZB 8
              have f3 := blk_free ZB 3
              have f4 := blk_free ZB 4
              simp only [List.getElem?_toArray, List.getElem?_cons_zero, List.getElem?_cons_succ] at z0 z1 z2 z3 z4 z5 z6 z7 z8
              have HW9 : Hid (Below wr.heap.size wr w9) := Lib.hid (bl_trans HB6.out HB9.out)
              rcases Classical.em (kd % 6 = 2) with hk2 | hk2
              · have t3 : decide (kd % 6 = 2) = true := decide_eq_true hk2
                have t4 : decide (kd % 6 = 3) = false := decide_eq_false (by omega)
                have tw : IntKind.i64.wrap nm = nm := (IntKind.wrap_i64 _).trans (by have := m2 hk2; omega)
                have HWx : Hid (Below wr.heap.size wr (w9.setCell ⟨u0.heap.size, 3, none⟩ (.int .i64 nm))) := Lib.hid (HW9.out.setCell (p := ⟨u0.heap.size, 3, none⟩) (show wr.heap.size ≤ u0.heap.size by have := HS5.out; omega) (.int .i64 nm))
                have HRx7 : Hid (Kd.R (Kd.int .u8) 5 (w9.setCell ⟨u0.heap.size, 3, none⟩ (.int .i64 nm)) w.heap.size (fun k => wr.heap.size ≤ k) (.slice A7 data.length c7) data) := Lib.hid (Ses.R_low (show Ses.DataB w5.heap.size data (w9.setCell ⟨u0.heap.size, 3, none⟩ (.int .i64 nm)) (.slice A7 data.length c7) from (Ses.R_setCells [.int .i64 nm] 3 HR7'.out HN7.out)) ⟨HB.out.size, by have := HS5.out; omega⟩)
                have HRx8 : Hid (Kd.R (Kd.int .u8) 5 (w9.setCell ⟨u0.heap.size, 3, none⟩ (.int .i64 nm)) w.heap.size (fun k => wr.heap.size ≤ k) (.slice A8 other.length c8) other) := Lib.hid (Ses.R_low (show Ses.DataB w5.heap.size other (w9.setCell ⟨u0.heap.size, 3, none⟩ (.int .i64 nm)) (.slice A8 other.length c8) from (Ses.R_setCells [.int .i64 nm] 3 HR8'.out HN8.out)) ⟨HB.out.size, by have := HS5.out; omega⟩)
                go_wp2_with ((with_reducible refine gate_builtin (b := .append) (xs := #[.tmp 49, .tmp 51]) rfl ?_); at_builtin; refine Kd.R_append Ses.psKd (w0 := w) w.heap.size rfl (.tmp 49) (.tmp 51) 30 29 _ 80 rfl Tryd.underlying30 inf29 rfl (by decide) (by decide) u3 ((ps.take j).map Ses.conv) ⟨2, data, other, nm, 0, sz, flag, pb, pc⟩ [.int .i64 2, .slice A7 data.length c7, .slice A8 other.length c8, .int .i64 nm, .int .u64 0, .int .u8 sz, .int .u8 flag, .bool pb, .bool pc] (fun _ => True) (fun k => wr.heap.size ≤ k) ?aV ?aX ?aP ?aK (fun _ _ => trivial) ?aO ?aB ?aS ?aL ?_; (case aV => exact rfl); (case aX => first | exact rfl | (rw [World.size_setCell]; exact rfl)); (case aP => exact Ses.ps_make (p := ⟨2, data, other, nm, 0, sz, flag, pb, pc⟩) HRx7.out HRx8.out); (case aK => exact fun k hk => ⟨trivial, fun e => by have := Kd.R_lt HO.out k e.symm; omega⟩); (case aO => exact Kd.R_below HO.out HWx.out); (case aB => exact HB.out.trans (HWx.out.mono HB.out.size)); (case aS => exact (HB.out.trans (HWx.out.mono HB.out.size)).size); (case aL => (rw [List.length_map, List.length_take]; omega)); intro v10 w10 ho hb hg hat; have HO10 := Lib.hid ho; have HB10 := Lib.hid hb; clear ho hb hg hat)
                go_roundw
                case measure => simp [intOf]; omega
                case rel =>
                  refine ⟨j + 1, by go_num, by omega, Lib.hid ?_, HB10⟩
                  rw [take_map HP.out, show Ses.conv ⟨kd, size, num, pb, pc, flag, data, other⟩ = ⟨2, data, other, nm, 0, sz, flag, pb, pc⟩ from by simp only [Ses.conv, hk2, ← HNm.out, ← HSz'.out]; try simp]
                  exact HO10.out
              rcases Classical.em (kd % 6 = 3) with hk3 | hk3
              · have t3 : decide (kd % 6 = 2) = false := decide_eq_false hk2
                have t4 : decide (kd % 6 = 3) = true := decide_eq_true hk3
                have HWx : Hid (Below wr.heap.size wr (w9.setCell ⟨u0.heap.size, 4, none⟩ (.int .u64 nm))) := Lib.hid (HW9.out.setCell (p := ⟨u0.heap.size, 4, none⟩) (show wr.heap.size ≤ u0.heap.size by have := HS5.out; omega) (.int .u64 nm))
                have HRx7 : Hid (Kd.R (Kd.int .u8) 5 (w9.setCell ⟨u0.heap.size, 4, none⟩ (.int .u64 nm)) w.heap.size (fun k => wr.heap.size ≤ k) (.slice A7 data.length c7) data) := Lib.hid (Ses.R_low (show Ses.DataB w5.heap.size data (w9.setCell ⟨u0.heap.size, 4, none⟩ (.int .u64 nm)) (.slice A7 data.length c7) from (Ses.R_setCells [.int .u64 nm] 4 HR7'.out HN7.out)) ⟨HB.out.size, by have := HS5.out; omega⟩)
                have HRx8 : Hid (Kd.R (Kd.int .u8) 5 (w9.setCell ⟨u0.heap.size, 4, none⟩ (.int .u64 nm)) w.heap.size (fun k => wr.heap.size ≤ k) (.slice A8 other.length c8) other) := Lib.hid (Ses.R_low (show Ses.DataB w5.heap.size other (w9.setCell ⟨u0.heap.size, 4, none⟩ (.int .u64 nm)) (.slice A8 other.length c8) from (Ses.R_setCells [.int .u64 nm] 4 HR8'.out HN8.out)) ⟨HB.out.size, by have := HS5.out; omega⟩)
                go_wp2_with ((with_reducible refine gate_builtin (b := .append) (xs := #[.tmp 49, .tmp 51]) rfl ?_); at_builtin; refine Kd.R_append Ses.psKd (w0 := w) w.heap.size rfl (.tmp 49) (.tmp 51) 30 29 _ 80 rfl Tryd.underlying30 inf29 rfl (by decide) (by decide) u3 ((ps.take j).map Ses.conv) ⟨3, data, other, 0, nm, sz, flag, pb, pc⟩ [.int .i64 3, .slice A7 data.length c7, .slice A8 other.length c8, .int .i64 0, .int .u64 nm, .int .u8 sz, .int .u8 flag, .bool pb, .bool pc] (fun _ => True) (fun k => wr.heap.size ≤ k) ?aV ?aX ?aP ?aK (fun _ _ => trivial) ?aO ?aB ?aS ?aL ?_; (case aV => exact rfl); (case aX => first | exact rfl | (rw [World.size_setCell]; exact rfl)); (case aP => exact Ses.ps_make (p := ⟨3, data, other, 0, nm, sz, flag, pb, pc⟩) HRx7.out HRx8.out); (case aK => exact fun k hk => ⟨trivial, fun e => by have := Kd.R_lt HO.out k e.symm; omega⟩); (case aO => exact Kd.R_below HO.out HWx.out); (case aB => exact HB.out.trans (HWx.out.mono HB.out.size)); (case aS => exact (HB.out.trans (HWx.out.mono HB.out.size)).size); (case aL => (rw [List.length_map, List.length_take]; omega)); intro v10 w10 ho hb hg hat; have HO10 := Lib.hid ho; have HB10 := Lib.hid hb; clear ho hb hg hat)
                go_roundw
                case measure => simp [intOf]; omega
                case rel =>
                  refine ⟨j + 1, by go_num, by omega, Lib.hid ?_, HB10⟩
                  rw [take_map HP.out, show Ses.conv ⟨kd, size, num, pb, pc, flag, data, other⟩ = ⟨3, data, other, 0, nm, sz, flag, pb, pc⟩ from by simp only [Ses.conv, hk3, ← HNm.out, ← HSz'.out]; try simp]
                  exact HO10.out
              have t3 : decide (kd % 6 = 2) = false := decide_eq_false hk2
              have t4 : decide (kd % 6 = 3) = false := decide_eq_false hk3
              have HWx : Hid (Below wr.heap.size wr w9) := Lib.hid HW9.out
              have HRx7 : Hid (Kd.R (Kd.int .u8) 5 w9 w.heap.size (fun k => wr.heap.size ≤ k) (.slice A7 data.length c7) data) := Lib.hid (Ses.R_low (show Ses.DataB w5.heap.size data w9 (.slice A7 data.length c7) from HR7'.out) ⟨HB.out.size, by have := HS5.out; omega⟩)
              have HRx8 : Hid (Kd.R (Kd.int .u8) 5 w9 w.heap.size (fun k => wr.heap.size ≤ k) (.slice A8 other.length c8) other) := Lib.hid (Ses.R_low (show Ses.DataB w5.heap.size other w9 (.slice A8 other.length c8) from HR8'.out) ⟨HB.out.size, by have := HS5.out; omega⟩)
              go_wp2_with ((with_reducible refine gate_builtin (b := .append) (xs := #[.tmp 49, .tmp 51]) rfl ?_); at_builtin; refine Kd.R_append Ses.psKd (w0 := w) w.heap.size rfl (.tmp 49) (.tmp 51) 30 29 _ 80 rfl Tryd.underlying30 inf29 rfl (by decide) (by decide) u3 ((ps.take j).map Ses.conv) ⟨kd % 6, data, other, 0, 0, sz, flag, pb, pc⟩ [.int .i64 (kd % 6), .slice A7 data.length c7, .slice A8 other.length c8, .int .i64 0, .int .u64 0, .int .u8 sz, .int .u8 flag, .bool pb, .bool pc] (fun _ => True) (fun k => wr.heap.size ≤ k) ?aV ?aX ?aP ?aK (fun _ _ => trivial) ?aO ?aB ?aS ?aL ?_; (case aV => exact rfl); (case aX => first | exact rfl | (rw [World.size_setCell]; exact rfl)); (case aP => exact Ses.ps_make (p := ⟨kd % 6, data, other, 0, 0, sz, flag, pb, pc⟩) HRx7.out HRx8.out); (case aK => exact fun k hk => ⟨trivial, fun e => by have := Kd.R_lt HO.out k e.symm; omega⟩); (case aO => exact Kd.R_below HO.out HWx.out); (case aB => exact HB.out.trans (HWx.out.mono HB.out.size)); (case aS => exact (HB.out.trans (HWx.out.mono HB.out.size)).size); (case aL => (rw [List.length_map, List.length_take]; omega)); intro v10 w10 ho hb hg hat; have HO10 := Lib.hid ho; have HB10 := Lib.hid hb; clear ho hb hg hat)
              go_roundw
              case measure => simp [intOf]; omega
              case rel =>
                refine ⟨j + 1, by go_num, by omega, Lib.hid ?_, HB10⟩
                rw [take_map HP.out, show Ses.conv ⟨kd, size, num, pb, pc, flag, data, other⟩ = ⟨kd % 6, data, other, 0, 0, sz, flag, pb, pc⟩ from by simp only [Ses.conv, if_neg hk2, if_neg hk3, ← HNm.out, ← HSz'.out]; try simp]
                exact HO10.out
            exact AllReadyH.nil
          exact AllReadyH.nil
        exact AllReadyH.nil
      exact AllReadyH.nil
    · have hjn : j = n := by omega
      have t2 : decide ((j : Int) < (n : Int)) = false := decide_eq_false (by omega)
      have ht : ps.take j = ps := List.take_of_length_le (by have := HN.out; omega)
      go_wp2
      go_ret
      exact ⟨_, rfl, by rw [← ht]; exact HO.out, HB.out⟩
end Go.Proofs.YtdnahdddkagfhaaDoor.X
