/- A session reads: by what stands ahead in its input. -/
import Derived.Test.YtdnahdddkagfhaaDoorGg
import Derived.Test.YtdnahdddkagfhaaDoorGk
namespace Go.Proofs.YtdnahdddkagfhaaDoor.X
open Go.RowKit Go.Proofs.YtdnahdddkagfhaaDoorW.PrintWords Go.Proofs.YtdnahdddkagfhaaDoorW.PrintMore
attribute [local go_sem] setCell_drewN alloc_drewN
set_option linter.unusedVariables false
set_option linter.unusedSimpArgs false
namespace Ses
/-- These bytes stand at idx. -/
def Pre (l : List Int) (idx : Nat) (e : List Int) : Prop := idx ≤ l.length ∧ ∃ rest, l.drop idx = e ++ rest
theorem Pre.app {l : List Int} {idx : Nat} {a b : List Int} (h : Pre l idx (a ++ b)) : Pre l idx a ∧ Pre l (idx + a.length) b := by
  obtain ⟨h0, rest, hr⟩ := h
  refine ⟨⟨h0, b ++ rest, by rw [hr, List.append_assoc]⟩, ⟨?_, rest, ?_⟩⟩
  · have := congrArg List.length hr
    simp at this
    omega
  · rw [← List.drop_drop, hr, List.append_assoc, List.drop_left]
theorem Pre.len {l : List Int} {idx : Nat} {a : List Int} (h : Pre l idx a) : idx + a.length ≤ l.length := by
  obtain ⟨h0, rest, hr⟩ := h
  have := congrArg List.length hr
  simp at this
  omega
theorem Pre.take {l : List Int} {idx : Nat} {a : List Int} (h : Pre l idx a) : (l.drop idx).take a.length = a := by
  obtain ⟨h0, rest, hr⟩ := h
  rw [hr, List.take_left]
theorem Pre.cons {l : List Int} {idx : Nat} {x : Int} {a : List Int} (h : Pre l idx (x :: a)) : idx < l.length ∧ l.getD idx 0 = x ∧ Pre l (idx + 1) a := by
  have hl := h.len
  rw [List.length_cons] at hl
  obtain ⟨h0, rest, hr⟩ := h
  refine ⟨by omega, ?_, by omega, rest, ?_⟩
  · have e : l.getD idx 0 = (l.drop idx).getD 0 0 := by simp [List.getD_eq_getElem?_getD, List.getElem?_drop]
    rw [e, hr]
    rfl
  · rw [← List.drop_drop, hr]
    rfl
theorem Pre.cells {l : List Int} {idx : Nat} {a : List Int} (h : Pre l idx a) (i : Nat) (hi : i < a.length) : l.getD (idx + i) 0 = a.getD i 0 := by
  have ht := h.take
  have e : l.getD (idx + i) 0 = ((l.drop idx).take a.length).getD i 0 := by
    simp only [List.getD_eq_getElem?_getD]
    rw [List.getElem?_take, if_pos hi, List.getElem?_drop]
  rw [e, ht]
/-- Where a session stands in its input. -/
def idxOf (w : World) (b : Nat) : Nat := match w.cell? ⟨b, 4, none⟩ with
  | some v => (intOf v).toNat
  | none => 0
theorem RS.idxOf {w : World} {b g c : Nat} {l : List Int} {idx : Nat} {big : Bool} {chunk : Int} (h : RS w b g c l idx big chunk) : Ses.idxOf w b = idx := by
  unfold Ses.idxOf
  rw [h.c4]
  simp [intOf]
theorem RS.C {w : World} {b g c : Nat} {l : List Int} {idx : Nat} {big : Bool} {chunk : Int} (h : RS w b g c l idx big chunk) {i : Nat} {d : List Int} (hp : Pre l i d) : Kd.C (Kd.int .u8) w (some ⟨g, i, none⟩) d.length d := by
  have hl := hp.len
  have hm := h.max
  refine C_of (by omega) (fun k hk => ?_)
  rw [h.cells (i + k) (by omega), hp.cells k hk]
end Ses
set_option maxHeartbeats 4000000 in
set_option maxRecDepth 100000 in
/-- Nothing is read. -/
theorem read_zero (w : World) (b g c : Nat) (l : List Int) (idx : Nat) (big : Bool) (chunk : Int) (h : Ses.RS w b g c l idx big chunk) (hk : idx ≤ l.length) :
    Calls Tryd.prog 82 #[.pointer (some ⟨b, 0, none⟩), .int .i64 0] w fun e w' => (∃ o cc, e = .returned (.tuple #[.slice (some ⟨g, o, none⟩) 0 cc, .nilIface])) ∧ Ses.RS w' b g c l idx big chunk ∧ w.grownBy w' (some b) := by
  have HH := Lib.hid h
  have c0 := h.c0
  have c4 := h.c4
  have f4 := blk_free h.blk 4
  obtain ⟨hblk, hne, hcap, hcells, hmax, hlt⟩ := h
  clear hblk hcells
  have HN : Hid (l.length = l.length) := Lib.hid rfl
  generalize hn : l.length = n at *
  have p0 : (0 : Int) ≤ (idx : Int) := by omega
  have p2 : (idx : Int) ≤ (n : Int) := by omega
  have p4 : decide ((n : Int) < (idx : Int)) = false := decide_eq_false (by omega)
  have p7 : (idx : Int) ≤ (c : Int) := by omega
  have pw : IntKind.i64.wrap ((idx : Int) + 0) = (idx : Int) := by rw [Int.add_zero]; exact (IntKind.wrap_i64 _).trans (by omega)
  have pw2 : IntKind.i64.wrap (idx : Int) = (idx : Int) := (IntKind.wrap_i64 _).trans (by omega)
  by_cases hc : c = idx
  · have q1 : (c = idx) = True := eq_true hc
    have q2 : ((c : Int) = (idx : Int)) = True := eq_true (by omega)
    clear hc
    go_enter Tryd.func82, Tryd.ntmps82
    go_wp2
    go_region_held3 (fun w' => w'.cell? ⟨b, 0, none⟩ = some (.slice (some ⟨g, 0, none⟩) n c) ∧ w'.cell? ⟨b, 4, none⟩ = some (.int .i64 (idx : Int))) (first | exact ⟨c0, c4⟩) (first | fail)
    go_wp2
    go_region_held3 (fun w' => w'.cell? ⟨b, 0, none⟩ = some (.slice (some ⟨g, 0, none⟩) n c) ∧ w'.cell? ⟨b, 4, none⟩ = some (.int .i64 (idx : Int))) (first | exact ⟨c0, c4⟩) (first | fail)
    go_wp2
    go_ret2
    exact ⟨⟨_, _, rfl⟩, (HH.out.put idx).bl (below_drew (below_drew (Below.refl _ _))), (grown_set (grown_refl w (some b))).drew.drew⟩
  · have q1 : (c = idx) = False := eq_false hc
    have q2 : ((c : Int) = (idx : Int)) = False := eq_false (by omega)
    clear hc
    go_enter Tryd.func82, Tryd.ntmps82
    go_wp2
    go_region_held3 (fun w' => w'.cell? ⟨b, 0, none⟩ = some (.slice (some ⟨g, 0, none⟩) n c) ∧ w'.cell? ⟨b, 4, none⟩ = some (.int .i64 (idx : Int))) (first | exact ⟨c0, c4⟩) (first | fail)
    go_wp2
    go_region_held3 (fun w' => w'.cell? ⟨b, 0, none⟩ = some (.slice (some ⟨g, 0, none⟩) n c) ∧ w'.cell? ⟨b, 4, none⟩ = some (.int .i64 (idx : Int))) (first | exact ⟨c0, c4⟩) (first | fail)
    go_wp2
    go_ret2
    exact ⟨⟨_, _, rfl⟩, (HH.out.put idx).bl (below_drew (below_drew (Below.refl _ _))), (grown_set (grown_refl w (some b))).drew.drew⟩
/-- Bytes that stand ahead are read, none, too. -/
theorem read_any (w : World) (b g c : Nat) (l : List Int) (idx B : Nat) (big : Bool) (chunk : Int) (d : List Int) (h : Ses.RS w b g c l idx big chunk) (hp : Ses.Pre l idx d) (hB : g < B) :
    Calls Tryd.prog 82 #[.pointer (some ⟨b, 0, none⟩), .int .i64 d.length] w (Ses.RdP b g c l (idx + d.length) big chunk d B w) := by
  have hl := hp.len
  by_cases h0 : 0 < d.length
  · refine (read_ok w b g c l idx d.length big chunk h hl h0).mono ?_
    rintro e w' ⟨rfl, hrs, hg⟩
    exact ⟨_, _, rfl, hrs.C hp, (fun a ha => by injection ha with ha; subst ha; exact .inl hB), hrs, hg, by have := hrs.cap; omega⟩
  · have hd : d = [] := List.eq_nil_of_length_eq_zero (by omega)
    subst hd
    refine (read_zero w b g c l idx big chunk h hp.1).mono ?_
    rintro e w' ⟨⟨o, cc, rfl⟩, hrs, hg⟩
    exact ⟨_, _, rfl, ⟨rfl, by simp, fun h => absurd h (Nat.lt_irrefl 0)⟩, (fun a ha => by injection ha with ha; subst ha; exact .inl hB), hrs, hg, Nat.zero_le _⟩
set_option maxHeartbeats 1000000 in
set_option maxRecDepth 100000 in
theorem getBytes_any (w : World) (b g c : Nat) (l : List Int) (idx B : Nat) (big : Bool) (chunk : Int) (d : List Int) (h : Ses.RS w b g c l idx big chunk) (hp : Ses.Pre l idx d) (hB : g < B) :
    Calls Tryd.prog 69 #[.pointer (some ⟨b, 0, none⟩), .int .i64 d.length] w (Ses.RdP b g c l (idx + d.length) big chunk d B w) := by
  have HR := Lib.hid (read_any w b g c l idx B big chunk d h hp hB)
  obtain ⟨n, hn⟩ : ∃ n, n = d.length := ⟨_, rfl⟩
  have HN := Lib.hid hn
  rw [← hn] at HR ⊢
  clear h hp hn
  go_enter Tryd.func69, Tryd.ntmps69
  go_wp2_with (go_at_call 82; (with_reducible refine HR.out.mono ?_); rintro e w1 ⟨A, cc, rfl, hC, hab, hrs, hg, hle⟩; have HC := Lib.hid hC; have HA := Lib.hid hab; have HRS := Lib.hid hrs; have HG := Lib.hid hg; have HLe := Lib.hid hle; clear hC hab hrs hg hle)
  go_ret2
  exact ⟨A, cc, rfl, HC.out, HA.out, HRS.out, HG.out, HLe.out⟩
namespace Ses
theorem be_snoc : ∀ (l : List UInt8) (a : Nat) (b : UInt8), Lib.beFrom a (l ++ [b]) = Lib.beFrom a l * 256 + b.toNat
  | [], a, b => rfl
  | x :: l, a, b => by
    rw [List.cons_append, Lib.beFrom, Lib.beFrom, be_snoc l]
theorem be_zeros : ∀ (z : Nat) (l : List UInt8), Lib.beFrom 0 (List.replicate z 0 ++ l) = Lib.beFrom 0 l
  | 0, l => by simp
  | z + 1, l => by
    rw [List.replicate_succ, List.cons_append, Lib.beFrom]
    exact be_zeros z l
theorem be_digs : ∀ (ds : List Int), (∀ d ∈ ds, 0 ≤ d ∧ d ≤ 255) → (Lib.beFrom 0 (ds.reverse.map fun y => UInt8.ofNat y.toNat) : Int) = Dg.digs ds
  | [], _ => rfl
  | d :: ds, h => by
    have ih := be_digs ds (fun x hx => h x (by simp [hx]))
    have hd := h d (by simp)
    rw [List.reverse_cons, List.map_append, List.map_singleton, be_snoc, Dg.digs]
    have e : ((UInt8.ofNat d.toNat).toNat : Int) = d := by
      rw [UInt8.toNat_ofNat']
      omega
    rw [Int.natCast_add, Int.natCast_mul, ih, e]
    show Dg.digs ds * 256 + d = d + 256 * Dg.digs ds
    omega
theorem beVal_dg (ds : List Int) (h : ∀ d ∈ ds, 0 ≤ d ∧ d ≤ 255) : beVal ds.reverse = Dg.digs ds := by
  unfold beVal eight
  rw [List.map_append, List.map_replicate]
  show (Lib.beFrom 0 (List.replicate _ 0 ++ _) : Int) = _
  rw [be_zeros]
  exact be_digs ds h
theorem b127 : ∀ m : Fin 9, Go.bits .and .u8 (m.val : Int) 127 = (m.val : Int) := by decide +kernel
theorem b128w : ∀ m : Fin 9, Go.bits .and .i64 (m.val : Int) 128 = 0 := by decide +kernel
end Ses
/-- A compressed number that stands ahead is read. -/
theorem getInt64_packed (w : World) (b g c : Nat) (l : List Int) (idx : Nat) (big sb : Bool) (chunk size n : Int) (h : Ses.RS w b g c l idx big chunk) (hp : Ses.Pre l idx (Dg.packed n)) (h0 : 0 ≤ n) (h1 : n < 9223372036854775808) (hby : ∀ y ∈ l, 0 ≤ y ∧ y ≤ 255) :
    Calls Tryd.prog 73 #[.pointer (some ⟨b, 0, none⟩), .int .i64 size, .bool true, .bool sb] w fun e w' => e = .returned (.tuple #[.int .i64 n, .nilIface]) ∧ Ses.RS w' b g c l (idx + (Dg.packed n).length) big chunk ∧ w.grownBy w' (some b) := by
  have hl8 : (Dg.dg n).length ≤ 8 := Dg.dg_len n
  have hdb : ∀ d ∈ Dg.dg n, 0 ≤ d ∧ d ≤ 255 := Dg.dgF_byt 8 n
  have hdg : Dg.digs (Dg.dg n) = n := Dg.dgF_digs 8 n h0 (by omega)
  have hpl : (Dg.packed n).length = (Dg.dg n).length + 1 := by rw [Dg.packed, List.length_cons, List.length_reverse]
  rw [hpl]
  unfold Dg.packed at hp
  obtain ⟨q0, q1, q2⟩ := hp.cons
  by_cases hz : (Dg.dg n).length = 0
  · have hd : Dg.dg n = [] := List.eq_nil_of_length_eq_zero hz
    have hn : n = 0 := by rw [← hdg, hd]; rfl
    rw [hz] at q1 ⊢
    rw [hn]
    exact getInt64_zero w b g c l idx big sb chunk size h q1 (by omega)
  · have hr := getInt64_plus w b g c l idx (Dg.dg n).length big sb chunk ((Dg.dg n).length : Int) size h (by omega) hl8 q1 (Ses.b128w ⟨_, by omega⟩) rfl (by have := q2.len; rw [List.length_reverse] at this; omega) hby
    have ht := q2.take
    rw [List.length_reverse] at ht
    rw [ht, Ses.beVal_dg _ hdb, hdg, show wrap64 n = n by unfold wrap64; omega, show idx + 1 + (Dg.dg n).length = idx + ((Dg.dg n).length + 1) by omega] at hr
    exact hr
theorem getInt_packed (w : World) (b g c : Nat) (l : List Int) (idx : Nat) (big sb : Bool) (chunk size n : Int) (h : Ses.RS w b g c l idx big chunk) (hp : Ses.Pre l idx (Dg.packed n)) (h0 : 0 ≤ n) (h1 : n < 9223372036854775808) (hby : ∀ y ∈ l, 0 ≤ y ∧ y ≤ 255) :
    Calls Tryd.prog 74 #[.pointer (some ⟨b, 0, none⟩), .int .i64 size, .bool true, .bool sb] w fun e w' => e = .returned (.tuple #[.int .i64 n, .nilIface]) ∧ Ses.RS w' b g c l (idx + (Dg.packed n).length) big chunk ∧ w.grownBy w' (some b) :=
  getInt_of w b size n true sb (fun w' => Ses.RS w' b g c l (idx + (Dg.packed n).length) big chunk ∧ w.grownBy w' (some b)) (getInt64_packed w b g c l idx big sb chunk size n h hp h0 h1 hby)
/-- A compressed number ahead is no long one. -/
theorem long_packed (w : World) (b g c : Nat) (l : List Int) (idx : Nat) (big : Bool) (chunk n : Int) (h : Ses.RS w b g c l idx big chunk) (hp : Ses.Pre l idx (Dg.packed n)) :
    Calls Tryd.prog 71 #[.pointer (some ⟨b, 0, none⟩)] w fun e w' => e = .returned (.bool false) ∧ Ses.RS w' b g c l idx big chunk ∧ w.grownBy w' (some b) := by
  have hl8 : (Dg.dg n).length ≤ 8 := Dg.dg_len n
  unfold Dg.packed at hp
  obtain ⟨q0, q1, q2⟩ := hp.cons
  exact long_ok w b g c l idx big chunk _ _ h (by omega) q1 (Ses.b127 ⟨_, by omega⟩) (by show ((Dg.dg n).length : Int) ≤ 8; omega)
end Go.Proofs.YtdnahdddkagfhaaDoor.X
