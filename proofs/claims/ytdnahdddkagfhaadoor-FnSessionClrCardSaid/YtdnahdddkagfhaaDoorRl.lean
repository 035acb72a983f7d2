/- GetClr of a session: a CLR of any length that stands ahead. -/
import Derived.Test.YtdnahdddkagfhaaDoorRe
namespace Go.Proofs.YtdnahdddkagfhaaDoor.X
open Go.RowKit Go.Proofs.YtdnahdddkagfhaaDoorW.PrintWords Go.Proofs.YtdnahdddkagfhaaDoorW.PrintMore
attribute [local go_sem] setCell_drewN alloc_drewN
set_option linter.unusedVariables false
set_option linter.unusedSimpArgs false
namespace Ses
theorem RS.kp2 {w w' : World} {b g c bb gg : Nat} {l : List Int} {idx : Nat} {big : Bool} {chunk : Int} (h : RS w b g c l idx big chunk) (k : Kp2 w w' bb gg) (h1 : b ≠ bb) (h2 : b ≠ gg) (h3 : g ≠ bb) (h4 : g ≠ gg) : RS w' b g c l idx big chunk :=
  ⟨(k.block b (xb_lt h.blk) h1 h2).trans h.blk, h.ne, h.cap, fun i hi => (World.cell?_of_block (a := ⟨g, i, none⟩) (k.block g h.lt h3 h4)).trans (h.cells i hi), h.max, Nat.lt_of_lt_of_le h.lt k.size⟩
theorem grown_kp2B {a w w' : World} {b bb gg : Nat} (h : a.grownBy w (some b)) (k : Kp2 w w' bb gg) (h1 : a.heap.size ≤ bb) (h2 : a.heap.size ≤ gg) : a.grownBy w' (some b) :=
  ⟨k.os.trans h.os, k.tape.trans h.tape, k.output.trans h.output, Nat.le_trans h.size k.size, fun i hi hr => (k.block i (Nat.lt_of_lt_of_le hi h.size) (by omega) (by omega)).trans (h.block i hi hr)⟩
/-- In the midst of a CLR: what is read so far lies in a buffer. -/
structure Mid (w wr : World) (b g c : Nat) (l : List Int) (idx : Nat) (big : Bool) (chunk : Int) (tb gB : Nat) (cs : Array Value) (acc : List Int) : Prop where
  rs : RS wr b g c l idx big chunk
  buf : BufA wr tb 0 gB 80 cs acc
  low : w.heap.size ≤ tb ∧ w.heap.size ≤ gB
  grown : w.grownBy wr (some b)
theorem Mid.read {w wr w' : World} {b g c : Nat} {l : List Int} {idx idx' : Nat} {big : Bool} {chunk : Int} {tb gB : Nat} {cs : Array Value} {acc : List Int} (h : Mid w wr b g c l idx big chunk tb gB cs acc) (hb : b < w.heap.size) (hr : RS w' b g c l idx' big chunk) (k : wr.grownBy w' (some b)) : Mid w w' b g c l idx' big chunk tb gB cs acc :=
  ⟨hr, h.buf.grown k (fun e => by have := Option.some.inj e; have := h.low; omega) (fun e => by have := Option.some.inj e; have := h.low; omega), h.low, grown_trans h.grown k⟩
theorem Mid.wrote {w wr w' : World} {b g c : Nat} {l : List Int} {idx : Nat} {big : Bool} {chunk : Int} {tb gB gB' : Nat} {cs cs' : Array Value} {acc acc' : List Int} (h : Mid w wr b g c l idx big chunk tb gB cs acc) (hb : b < w.heap.size) (hg : g < w.heap.size) (k : BufS wr w' tb 0 gB gB' 80 cs cs' acc') : Mid w w' b g c l idx big chunk tb gB' cs' acc' :=
  ⟨h.rs.kp2 k.kept (by have := h.low; omega) (by have := h.low; omega) (by have := h.low; omega) (by have := h.low; omega), k.now, ⟨h.low.1, by have := k.row; have := h.low; have := h.grown.size; omega⟩, grown_kp2B h.grown k.kept h.low.1 h.low.2⟩
/-- What is still to be read of a CLR. -/
def Rest (l : List Int) (big : Bool) (cc : Nat) (d acc : List Int) (idx idxE : Nat) (rest : List Int) (k : Nat) : Prop :=
  acc ++ rest = d ∧ Pre l idx (Dg.chunksF big cc k rest ++ [0]) ∧ rest.length ≤ k ∧ idx + (Dg.chunksF big cc k rest).length + 1 = idxE
end Ses
set_option maxHeartbeats 16000000 in
set_option maxRecDepth 100000 in
theorem getClr_long (w : World) (b g c : Nat) (l : List Int) (idx B cc : Nat) (big : Bool) (chunk : Int) (d : List Int) (h : Ses.RS w b g c l idx big chunk) (hd : 252 < d.length) (hd2 : d.length ≤ 100000) (hc1 : 1 ≤ cc) (hc2 : cc ≤ 252) (hp : Ses.Pre l idx (254 :: (Dg.chunksF big cc d.length d ++ [0]))) (hby : ∀ y ∈ l, 0 ≤ y ∧ y ≤ 255) :
    Calls Tryd.prog 70 #[.pointer (some ⟨b, 0, none⟩)] w (Ses.RdP b g c l (idx + (254 :: (Dg.chunksF big cc d.length d ++ [0])).length) big chunk d B w) := by
  have hbw := xb_lt h.blk
  have hgw := h.lt
  obtain ⟨q0, q1, q2⟩ := hp.cons
  have hgb := getByte_ok w b g c l idx big chunk h q0
  rw [q1] at hgb
  have HR := Lib.hid hgb
  obtain ⟨idxE, hE⟩ : ∃ idxE, idxE = idx + (254 :: (Dg.chunksF big cc d.length d ++ [0])).length := ⟨_, rfl⟩
  rw [← hE]
  have HRest : Hid (Ses.Rest l big cc d [] (idx + 1) idxE d d.length) := Lib.hid ⟨List.nil_append d, q2, Nat.le_refl _, by rw [hE, List.length_cons, List.length_append, List.length_singleton]; omega⟩
  have HGB := Lib.hid (fun (W : World) (i : Nat) (x : Int) (r : List Int) (h : Ses.RS W b g c l i big chunk) (hp : Ses.Pre l i (x :: r)) => (hp.cons.2.1 ▸ getByte_ok W b g c l i big chunk h hp.cons.1 : Calls Tryd.prog 68 #[.pointer (some ⟨b, 0, none⟩)] W fun e w' => e = .returned (.tuple #[.int .u8 x, .nilIface]) ∧ Ses.RS w' b g c l (i + 1) big chunk ∧ W.grownBy w' (some b)))
  have HGI := Lib.hid (fun (W : World) (i n : Nat) (h : Ses.RS W b g c l i big chunk) (hp : Ses.Pre l i (Dg.packed (n : Int))) (hn : n ≤ 255) => getInt_packed W b g c l i big true chunk 4 (n : Int) h hp (by omega) (by omega) hby)
  have HGY : Hid (∀ (W : World) (i n : Nat) (p : List Int), Ses.RS W b g c l i big chunk → Ses.Pre l i p → n = p.length → Calls Tryd.prog 69 #[.pointer (some ⟨b, 0, none⟩), .int .i64 n] W (Ses.RdP b g c l (i + n) big chunk p (g + 1) W)) := Lib.hid (fun W i n p h hp hn => by
    subst hn
    exact getBytes_any W b g c l i (g + 1) big chunk p h hp (by omega))
  clear h hp hgb q1 q2 hE
  go_enter Tryd.func70, Tryd.ntmps70
  go_wp2_with (go_at_call 68; (with_reducible refine HR.out.mono ?_); rintro e w1 ⟨rfl, hrs, hg⟩; have HRS := Lib.hid hrs; have HG := Lib.hid hg; clear hrs hg)
  have hz1 := HG.out.size
  have HM0 : Hid (Ses.Mid w (w1.alloc (.cells #[.slice none 0 0, .int .i64 0, .int .i8 0] 80)) b g c l (idx + 1) big chunk w1.heap.size w1.heap.size #[.slice none 0 0, .int .i64 0, .int .i8 0] []) := Lib.hid ⟨HRS.out.bl (below_alloc (Below.refl _ _) _), ⟨xb_new _ _, rfl, ⟨0, rfl⟩, .inl ⟨rfl, rfl, rfl⟩⟩, ⟨hz1, hz1⟩, grown_alloc HG.out _⟩
  go_loopw [3, 5] (fun v3 v5 wr => v3 = .nilIface ∧ ((∃ (m : Nat) (idx' gB k : Nat) (rest acc : List Int) (cs : Array Value), 0 < m ∧ v5 = .int .i64 m ∧ Hid (Ses.Mid w wr b g c l idx' big chunk w1.heap.size gB cs acc) ∧ Hid (Ses.Rest l big cc d acc idx' idxE rest k)) ∨ (∃ (gB : Nat) (cs : Array Value), v5 = .int .i64 0 ∧ Hid (Ses.Mid w wr b g c l idxE big chunk w1.heap.size gB cs d)))) (fun _ v5 wr => l.length + 1 - Ses.idxOf wr b)
  case atStart => exact ⟨rfl, .inl ⟨254, idx + 1, _, d.length, d, [], _, by omega, rfl, HM0, HRest⟩⟩
  case round =>
    obtain ⟨rfl, hrel⟩ := hrel
    rcases hrel with ⟨m, idx', gB, k, rest, acc, cs, hm, rfl, HM, HT⟩ | ⟨gB, cs, rfl, HM⟩
    · have t0 : decide ((m : Int) > 0) = true := decide_eq_true (by omega)
      have c5 := HM.out.rs.c5
      have hlb : ∀ n : Nat, 0 < (Dg.headB big n).length := fun n => by
        unfold Dg.headB
        split
        · rw [Dg.packed, List.length_cons]; omega
        · simp
      have HHd : Hid (∀ n : Nat, n ≤ 255 → Ses.Pre l idx' (Dg.headB big n) → (big = false → Calls Tryd.prog 68 #[.pointer (some ⟨b, 0, none⟩)] wr fun e w' => e = .returned (.tuple #[.int .u8 n, .nilIface]) ∧ Ses.RS w' b g c l (idx' + (Dg.headB big n).length) big chunk ∧ wr.grownBy w' (some b)) ∧ (big = true → Calls Tryd.prog 74 #[.pointer (some ⟨b, 0, none⟩), .int .i64 4, .bool true, .bool true] wr fun e w' => e = .returned (.tuple #[.int .i64 n, .nilIface]) ∧ Ses.RS w' b g c l (idx' + (Dg.headB big n).length) big chunk ∧ wr.grownBy w' (some b))) := Lib.hid (fun n hn hp => ⟨fun hb => by
        subst hb
        exact HGB.out wr idx' (n : Int) [] HM.out.rs hp, fun hb => by
        subst hb
        exact HGI.out wr idx' n HM.out.rs hp hn⟩)
      obtain ⟨hacc, hpre, hrk, hidx⟩ := HT.out
      clear HT
      have HWr : Hid (∀ (W W' : World) (i n : Nat) (p : List Int) (A : Option Addr) (cp : Nat), Ses.Mid w W b g c l i big chunk w1.heap.size gB cs acc → n = p.length → Kd.C (Kd.int .u8) W A p.length p → (∀ a, A = some a → a.block < g + 1 ∨ W'.heap.size ≤ a.block) → w1.heap.size < W'.heap.size → acc.length + p.length ≤ 1000000 → Calls Tryd.prog 58 #[.pointer (some ⟨w1.heap.size, 0, none⟩), .slice A n cp] W (BufP (.tuple #[.int .i64 n, .nilIface]) w1.heap.size 0 gB 80 cs (acc ++ p) W)) := Lib.hid (fun W W' i n p A cp hM hn hC hab hW' hl => by
        subst hn
        exact write_any w1.heap.size 0 gB _ cs acc p A cp W hM.buf hC (fun a ha => by
          have := hab a ha
          have := HG.out.size
          omega) (by omega))
      have htb := HM.out.buf.lt
      rcases rest with _ | ⟨r0, rest⟩
      · have hacd : acc = d := by rw [← hacc, List.append_nil]
        subst hacd
        rw [Dg.chunksF_nil] at hpre hidx
        rw [List.nil_append] at hpre
        simp only [List.length_nil, Nat.add_zero] at hidx
        have h0 : Dg.headB big 0 = [0] := by
          unfold Dg.headB
          split
          · rfl
          · rfl
        have hh := HHd.out 0 (by omega) (by rw [h0]; exact hpre)
        rw [h0] at hh
        simp only [List.length_singleton] at hh
        rw [hidx, Int.ofNat_zero] at hh
        have HH1 := Lib.hid hh
        have HG0 : Hid (∀ W : World, Ses.RS W b g c l idxE big chunk → Calls Tryd.prog 69 #[.pointer (some ⟨b, 0, none⟩), .int .i64 0] W fun e w' => ∃ A cc, e = .returned (.tuple #[.slice A 0 cc, .nilIface]) ∧ Kd.C (Kd.int .u8) w' A 0 [] ∧ (∀ a, A = some a → a.block < g + 1 ∨ W.heap.size ≤ a.block) ∧ Ses.RS w' b g c l idxE big chunk ∧ W.grownBy w' (some b) ∧ 0 ≤ cc) := Lib.hid (fun W h => HGY.out W idxE 0 [] h ⟨by have := hpre.len; rw [List.length_singleton] at this; omega, _, (List.nil_append _).symm⟩ rfl)
        have HL := Lib.hid hd2
        have HQ := Lib.hid (show idx' + 1 = idxE ∧ idx' + 1 ≤ l.length from ⟨hidx, by have := hpre.len; rw [List.length_singleton] at this; exact this⟩)
        clear hh hpre hidx h0 HHd hlb
        cases big
        all_goals
          go_wp2_with (first | (go_at_call 68; (with_reducible refine (HH1.out.1 rfl).mono ?_); rintro e w4 ⟨rfl, hrs, hg⟩; have HM4 := Lib.hid (HM.out.read hbw hrs hg); have HS4 := Lib.hid (Nat.lt_of_lt_of_le htb hg.size); clear hrs hg) | (go_at_call 74; (with_reducible refine (HH1.out.2 rfl).mono ?_); rintro e w4 ⟨rfl, hrs, hg⟩; have HM4 := Lib.hid (HM.out.read hbw hrs hg); have HS4 := Lib.hid (Nat.lt_of_lt_of_le htb hg.size); clear hrs hg) | (go_at_call 69; (with_reducible refine (HG0.out _ HM4.out.rs).mono ?_); rintro e w5 ⟨A5, c5, rfl, hC, hab, hrs, hg, -⟩; have HC5 := Lib.hid hC; have HA5 := Lib.hid hab; have HM5 := Lib.hid (HM4.out.read hbw hrs hg); clear hC hab hrs hg) | (go_at_call 58; (with_reducible refine (HWr.out _ w4 _ 0 [] _ _ HM5.out rfl HC5.out HA5.out HS4.out ?hz).mono ?_); (case hz => (have := HL.out; simp only [List.length_nil]; omega)); rintro e w6 ⟨rfl, g6, cs6, hst⟩; have HM6 := Lib.hid (HM5.out.wrote hbw hgw hst); clear hst))
          go_roundw
          case measure => rw [HM6.out.rs.idxOf, HM.out.rs.idxOf]; have := HQ.out; omega
          case rel =>
            refine ⟨rfl, .inr ⟨g6, cs6, rfl, ?_⟩⟩
            have hq := HM6.out
            rw [List.append_nil] at hq
            exact Lib.hid hq
      · obtain ⟨rs, hrs0⟩ : ∃ rs, rs = r0 :: rest := ⟨_, rfl⟩
        have hrl : 0 < rs.length := by rw [hrs0]; simp
        rw [← hrs0] at hacc hpre hrk hidx
        clear hrs0
        obtain ⟨k', hk'⟩ : ∃ k', k = k' + 1 := ⟨k - 1, by omega⟩
        subst hk'
        have hne : rs ≠ [] := fun e => by rw [e] at hrl; simp at hrl
        obtain ⟨p, hp⟩ : ∃ p, p = rs.take cc := ⟨_, rfl⟩
        obtain ⟨n1, hn1⟩ : ∃ n1, n1 = p.length := ⟨_, rfl⟩
        have hn1v : n1 = min cc rs.length := by rw [hn1, hp, List.length_take]
        have ech : Dg.chunksF big cc (k' + 1) rs = Dg.headB big n1 ++ p ++ Dg.chunksF big cc k' (rs.drop cc) := by rw [Dg.chunksF, if_neg hne, ← hp, ← hn1]
        rw [ech] at hpre hidx
        rw [List.append_assoc, List.append_assoc] at hpre
        obtain ⟨hp1, hpre⟩ := hpre.app
        obtain ⟨hp2, hp3⟩ := hpre.app
        rw [List.length_append, List.length_append] at hidx
        rw [← hn1] at hp3 hidx
        have hh := HHd.out n1 (by omega) hp1
        obtain ⟨i1, hi1⟩ : ∃ i1, i1 = idx' + (Dg.headB big n1).length := ⟨_, rfl⟩
        rw [← hi1] at hh hp2 hp3
        have hi1b : idx' < i1 := by have := hlb n1; omega
        have HH1 := Lib.hid hh
        have HG1 := Lib.hid (fun (W : World) (h : Ses.RS W b g c l i1 big chunk) => HGY.out W i1 n1 p h hp2 hn1)
        have HN1 := Lib.hid hn1
        have hT : Ses.Rest l big cc d (acc ++ p) (i1 + n1) idxE (rs.drop cc) k' := ⟨by rw [List.append_assoc, hp, List.take_append_drop]; exact hacc, hp3, by rw [List.length_drop]; omega, by omega⟩
        have HT2 := Lib.hid hT
        have hal : acc.length + p.length ≤ 1000000 := by
          have h := congrArg List.length hacc
          rw [List.length_append] at h
          have : p.length ≤ rs.length := by rw [hp, List.length_take]; omega
          omega
        have HAl := Lib.hid hal
        have HQ := Lib.hid (show idx' < i1 ∧ i1 ≤ l.length from ⟨hi1b, hp2.1⟩)
        have pw : IntKind.i64.wrap (n1 : Int) = (n1 : Int) := (IntKind.wrap_i64 _).trans (by omega)
        have hn1p : 0 < n1 := by omega
        have hn1q : (n1 : Int) ≤ 252 := by omega
        clear hh hp1 hp2 hp3 hpre hidx hacc hrk hne hn1 hn1v ech hi1 hi1b hT hal HHd hlb hp
        cases big
        all_goals
          go_wp2_with (first | (go_at_call 68; (with_reducible refine (HH1.out.1 rfl).mono ?_); rintro e w4 ⟨rfl, hrs, hg⟩; have HM4 := Lib.hid (HM.out.read hbw hrs hg); have HS4 := Lib.hid (Nat.lt_of_lt_of_le htb hg.size); clear hrs hg) | (go_at_call 74; (with_reducible refine (HH1.out.2 rfl).mono ?_); rintro e w4 ⟨rfl, hrs, hg⟩; have HM4 := Lib.hid (HM.out.read hbw hrs hg); have HS4 := Lib.hid (Nat.lt_of_lt_of_le htb hg.size); clear hrs hg) | (go_at_call 69; (with_reducible refine (HG1.out _ HM4.out.rs).mono ?_); rintro e w5 ⟨A5, c5, rfl, hC, hab, hrs, hg, -⟩; (rw [← HN1.out]); have HC5 := Lib.hid hC; have HA5 := Lib.hid hab; have HM5 := Lib.hid (HM4.out.read hbw hrs hg); clear hC hab hrs hg) | (go_at_call 58; (with_reducible refine (HWr.out _ w4 _ n1 p _ _ HM5.out HN1.out HC5.out HA5.out HS4.out HAl.out).mono ?_); rintro e w6 ⟨rfl, g6, cs6, hst⟩; have HM6 := Lib.hid (HM5.out.wrote hbw hgw hst); clear hst))
          go_roundw
          case measure => rw [HM6.out.rs.idxOf, HM.out.rs.idxOf]; have := HQ.out; omega
          case rel => exact ⟨rfl, .inl ⟨n1, i1 + n1, g6, k', rs.drop cc, acc ++ p, cs6, hn1p, rfl, HM6, HT2⟩⟩
    · have HBy := Lib.hid (bytes_any w1.heap.size 0 gB _ cs d wr HM.out.buf)
      obtain ⟨n, hn⟩ : ∃ n, n = d.length := ⟨_, rfl⟩
      have HN := Lib.hid hn
      rw [← hn] at HBy
      clear hn
      go_wp2_with (go_at_call 46; (with_reducible refine HBy.out.mono ?_); rintro e w8 ⟨A8, c8, rfl, hA8, hC8, hle8, n8, rfl⟩; have HA8 := Lib.hid hA8; have HC8 := Lib.hid hC8; have HL8 := Lib.hid hle8; clear hA8 hC8 hle8)
      go_ret2
      have hC := HC8.out
      have hl8 := HL8.out
      rw [HN.out] at hC hl8 ⊢
      refine ⟨A8, c8, rfl, Kd.C_below hC (bl_drewN _ _), fun a ha => ?_, HM.out.rs.bl (bl_drewN _ _), grown_bl HM.out.grown (bl_drewN _ _), hl8⟩
      rcases HA8.out with rfl | ⟨rfl, _⟩
      · cases ha
      · injection ha with ha
        subst ha
        exact .inr HM.out.low.2
/-- A CLR that stands ahead is read. -/
theorem getClr_any (w : World) (b g c : Nat) (l : List Int) (idx B cc : Nat) (big : Bool) (chunk : Int) (d : List Int) (h : Ses.RS w b g c l idx big chunk) (hB : B ≤ w.heap.size) (hd2 : d.length ≤ 100000) (hc1 : 1 ≤ cc) (hc2 : cc ≤ 252) (hp : Ses.Pre l idx (Dg.clrB big cc d)) (hby : ∀ y ∈ l, 0 ≤ y ∧ y ≤ 255) :
    Calls Tryd.prog 70 #[.pointer (some ⟨b, 0, none⟩)] w (Ses.RdP b g c l (idx + (Dg.clrB big cc d).length) big chunk d B w) := by
  unfold Dg.clrB at hp ⊢
  split at hp
  · rename_i hs
    rw [if_pos hs]
    obtain ⟨q0, q1, q2⟩ := hp.cons
    by_cases h0 : 0 < d.length
    · refine (getClr_short w b g c l idx d.length big chunk h h0 hs q1 (by have := q2.len; omega) (xb_lt h.blk)).mono ?_
      rintro e w' ⟨gd, cd, rfl, hgd, hgl, hcd, hcl, hrs, hg⟩
      rw [q2.take] at hcl
      refine ⟨some ⟨gd, 0, none⟩, cd, rfl, ?_, fun a ha => by injection ha with ha; subst ha; exact .inr hgd, by rw [List.length_cons, show idx + (d.length + 1) = idx + 1 + d.length by omega]; exact hrs, hg, hcd⟩
      exact C_of (by omega) (fun i hi => by rw [Nat.zero_add]; exact hcl i hi)
    · have hd : d = [] := List.eq_nil_of_length_eq_zero (by omega)
      subst hd
      refine (getClr_none w b g c l idx big chunk h q0 (.inl q1)).mono ?_
      rintro e w' ⟨rfl, hrs, hg⟩
      exact ⟨none, 0, rfl, C_empty _ _ _, (fun a ha => by cases ha), hrs, hg, Nat.le_refl _⟩
  · rename_i hs
    rw [if_neg hs]
    exact getClr_long w b g c l idx B cc big chunk d h (by omega) hd2 hc1 hc2 hp hby
end Go.Proofs.YtdnahdddkagfhaaDoor.X
