/- impl.SessionPut of any steps. -/
import Derived.Test.YtdnahdddkagfhaaDoorWd
import Derived.Test.YtdnahdddkagfhaaDoorSg
namespace Go.Proofs.YtdnahdddkagfhaaDoor.X
open Go.RowKit Go.Proofs.YtdnahdddkagfhaaDoorW.PrintWords Go.Proofs.YtdnahdddkagfhaaDoorW.PrintMore
attribute [local go_sem] setCell_drewN alloc_drewN
set_option linter.unusedVariables false
set_option linter.unusedSimpArgs false
/-- A row of elements that is read, by addresses that are written out. -/
theorem Kd.C_head {α : Type} {d : Kd α} {w : World} {A : Option Addr} {n : Nat} {xs : List α} (h : d.C w A n xs) (hs : 0 < d.sz) (hn : 0 < n) :
    ∃ g o, A = some ⟨g, o, none⟩ ∧ g < w.heap.size ∧ ∀ j p, xs[j]? = some p → ∃ c, c.length = d.sz ∧ d.K w p c ∧ ∀ i u, c[i]? = some u → w.cell? ⟨g, o + j * d.sz + i, none⟩ = some u := by
  obtain ⟨hl, _, hh⟩ := h
  obtain ⟨ad, rfl, hc⟩ := hh hn
  obtain ⟨g, o, spot⟩ := ad
  obtain ⟨c, hcl, hK, hcell⟩ := hc 0 _ (List.getElem?_eq_getElem (by omega))
  have h0 := hcell 0 _ (List.getElem?_eq_getElem (by omega))
  have hsp : spot = none := by
    have := World.cell?_spot h0
    simpa [Addr.add] using this
  subst hsp
  refine ⟨g, o, rfl, ?_, fun j p hj => ?_⟩
  · have := World.block_lt_of_cell? w _ h0
    rw [Lib.addr_add] at this
    exact this
  · obtain ⟨c, hcl, hK, hcell⟩ := hc j p hj
    refine ⟨c, hcl, hK, fun i u hi => ?_⟩
    have := hcell i u hi
    rw [Lib.addr_add] at this
    rw [Nat.add_assoc]
    exact this
namespace Ses
/-- A step of a writer. -/
structure PS where
  kind : Int
  data : List Int
  other : List Int
  num : Int
  uns : Int
  size : Int
  flag : Int
  big : Bool
  comp : Bool
def psKd : Kd PS := Kd.iso (Kd.pair (Kd.int .i64) (Kd.pair (Kd.slice 5 (Kd.int .u8)) (Kd.pair (Kd.slice 5 (Kd.int .u8)) (Kd.pair (Kd.int .i64) (Kd.pair (Kd.int .u64) (Kd.pair (Kd.int .u8) (Kd.pair (Kd.int .u8) (Kd.pair Kd.bool Kd.bool)))))))) (fun p => (p.kind, p.data, p.other, p.num, p.uns, p.size, p.flag, p.big, p.comp))
theorem ps_open {w : World} {p : PS} {c : List Value} (h : psKd.K w p c) : ∃ A cA B cB, c = [.int .i64 p.kind, .slice A p.data.length cA, .slice B p.other.length cB, .int .i64 p.num, .int .u64 p.uns, .int .u8 p.size, .int .u8 p.flag, .bool p.big, .bool p.comp] ∧ Kd.C (Kd.int .u8) w A p.data.length p.data ∧ Kd.C (Kd.int .u8) w B p.other.length p.other := by
  obtain ⟨c0, d0, rfl, h0, c1, d1, rfl, ⟨A, cA, rfl, hA, hA2⟩, c2, d2, rfl, ⟨B, cB, rfl, hB, hB2⟩, c3, d3, rfl, h3, c4, d4, rfl, h4, c5, d5, rfl, h5, c6, d6, rfl, h6, c7, d7, rfl, h7, h8⟩ := h
  have e0 : c0 = [_] := h0
  have e3 : c3 = [_] := h3
  have e4 : c4 = [_] := h4
  have e5 : c5 = [_] := h5
  have e6 : c6 = [_] := h6
  have e7 : c7 = [_] := h7
  have e8 : d7 = [_] := h8
  subst e0; subst e3; subst e4; subst e5; subst e6; subst e7; subst e8
  exact ⟨A, cA, B, cB, rfl, hA2, hB2⟩
/-- A number that a size holds. -/
def OkN (n s : Int) : Prop := 0 ≤ n ∧ (s = 1 ∧ n < 256 ∨ s = 2 ∧ n < 65536 ∨ s = 4 ∧ n < 4294967296 ∨ s = 8 ∧ n < 18446744073709551616)
/-- A number as a step writes it. -/
def numB (two : Bool) (n s : Int) (be comp : Bool) : List Int := if comp && (two || decide (1 < s)) then Dg.packed n else if be then (Dg.plainL s.toNat n).reverse else Dg.plainL s.toNat n
/-- What a step writes. -/
def stepB (big : Bool) (c : Nat) (p : PS) : List Int :=
  if p.kind = 0 then p.data else if p.kind = 1 then Dg.clrB big c p.data else if p.kind = 2 then numB true p.num p.size p.big p.comp else if p.kind = 3 then numB false p.uns p.size p.big p.comp
  else if p.kind = 4 then Dg.dlcB big c p.data ++ Dg.dlcB big c p.other ++ Dg.packed p.flag else if p.kind = 5 then Dg.fixedB p.data else []
structure OkP (p : PS) : Prop where
  data : p.data.length ≤ 3000
  other : p.other.length ≤ 3000
  flag : 0 ≤ p.flag ∧ p.flag ≤ 255
  num : p.kind = 2 → OkN p.num p.size ∧ p.num < 9223372036854775808
  uns : p.kind = 3 → OkN p.uns p.size
theorem okN_len {n s : Int} (h : OkN n s) (two be comp : Bool) : (numB two n s be comp).length ≤ 9 := by
  unfold numB
  split
  · exact Dg.packed_len n
  · have : s.toNat ≤ 8 := by
      rcases h.2 with h | h | h | h <;> omega
    split
    · rw [List.length_reverse, Dg.plainL_len]; omega
    · rw [Dg.plainL_len]; omega
theorem stepB_len {p : PS} (h : OkP p) (big : Bool) (c : Nat) (hc : 1 ≤ c) : (stepB big c p).length ≤ 70000 := by
  have h1 := h.data
  have h2 := h.other
  unfold stepB
  split
  · omega
  split
  · have := Dg.clrB_len big c hc p.data; omega
  split
  · rename_i hk; have := okN_len (h.num hk).1 true p.big p.comp; omega
  split
  · rename_i hk; have := okN_len (h.uns hk) false p.big p.comp; omega
  split
  · have a := Dg.dlcB_len big c hc p.data
    have b := Dg.dlcB_len big c hc p.other
    have d := Dg.packed_len p.flag
    rw [List.length_append, List.length_append]; omega
  split
  · have := Dg.fixedB_len p.data; omega
  · simp
theorem plain1 (n : Int) (h0 : 0 ≤ n) (h : n < 256) : Dg.plainL 1 n = [n] := by
  rw [Dg.plainL, Dg.plainL]
  congr 1
  omega
end Ses
theorem putInt_any (b g : Nat) (big : Bool) (chunk : Int) (out : List Int) (n s : Int) (be comp : Bool) (w : World) (h : Ses.WS w b g big chunk out) (hN : Ses.OkN n s) (h63 : n < 9223372036854775808) (hlim : out.length + 9 ≤ 140737488355328) :
    Calls Tryd.prog 42 #[.pointer (some ⟨b, 0, none⟩), .iface 2 (.int .i64 n), .int .u8 s, .bool be, .bool comp] w (Ses.WP (.tuple #[]) b g big chunk (out ++ Ses.numB true n s be comp) w) := by
  obtain ⟨h0, hs⟩ := hN
  rcases hs with ⟨hs, hlt⟩ | ⟨hs, hlt⟩ | ⟨hs, hlt⟩ | ⟨hs, hlt⟩
  · subst hs
    obtain ⟨m, rfl⟩ := Int.eq_ofNat_of_zero_le h0
    cases comp
    · have hr := putInt_one b g big chunk out m be false w h (by omega) hlim
      have e : Ses.numB true (m : Int) 1 be false = [(m : Int)] := by
        have e1 := Ses.plain1 (m : Int) (by omega) (by omega)
        cases be
        · exact e1
        · show (Dg.plainL 1 (m : Int)).reverse = _
          rw [e1]; rfl
      rw [e]
      exact hr
    · have hr := putInt_packed b g big chunk out m 1 be w h (by omega) (by omega) (by omega) (by omega) hlim
      exact hr
  · subst hs
    obtain ⟨m, rfl⟩ := Int.eq_ofNat_of_zero_le h0
    cases comp
    · cases be
      · exact putInt_le2 b g big chunk out m w h (by omega) hlim
      · exact putInt_be2 b g big chunk out m w h (by omega) hlim
    · have hr := putInt_packed b g big chunk out m 2 be w h (by omega) (by omega) (by omega) (by omega) hlim
      exact hr
  · subst hs
    obtain ⟨m, rfl⟩ := Int.eq_ofNat_of_zero_le h0
    cases comp
    · cases be
      · exact putInt_le4 b g big chunk out m w h (by omega) hlim
      · exact putInt_be4 b g big chunk out m w h (by omega) hlim
    · have hr := putInt_packed b g big chunk out m 4 be w h (by omega) (by omega) (by omega) (by omega) hlim
      exact hr
  · subst hs
    obtain ⟨m, rfl⟩ := Int.eq_ofNat_of_zero_le h0
    cases comp
    · cases be
      · exact putInt_le8 b g big chunk out m w h (by omega) hlim
      · exact putInt_be8 b g big chunk out m w h (by omega) hlim
    · have hr := putInt_packed b g big chunk out m 8 be w h (by omega) (by omega) (by omega) (by omega) hlim
      exact hr
theorem putUint_any (b g : Nat) (big : Bool) (chunk : Int) (out : List Int) (n s : Int) (be comp : Bool) (w : World) (h : Ses.WS w b g big chunk out) (hN : Ses.OkN n s) (hlim : out.length + 9 ≤ 140737488355328) :
    Calls Tryd.prog 43 #[.pointer (some ⟨b, 0, none⟩), .iface 27 (.int .u64 n), .int .u8 s, .bool be, .bool comp] w (Ses.WP (.tuple #[]) b g big chunk (out ++ Ses.numB false n s be comp) w) := by
  obtain ⟨h0, hs⟩ := hN
  rcases hs with ⟨hs, hlt⟩ | ⟨hs, hlt⟩ | ⟨hs, hlt⟩ | ⟨hs, hlt⟩
  · subst hs
    obtain ⟨m, rfl⟩ := Int.eq_ofNat_of_zero_le h0
    cases comp
    · have hr := putUint_one b g big chunk out m be false w h (by omega) hlim
      have e : Ses.numB false (m : Int) 1 be false = [(m : Int)] := by
        have e1 := Ses.plain1 (m : Int) (by omega) (by omega)
        cases be
        · exact e1
        · show (Dg.plainL 1 (m : Int)).reverse = _
          rw [e1]; rfl
      rw [e]
      exact hr
    · have hr := putUint_one b g big chunk out m be true w h (by omega) hlim
      have e : Ses.numB false (m : Int) 1 be true = [(m : Int)] := by
        have e1 := Ses.plain1 (m : Int) (by omega) (by omega)
        cases be
        · exact e1
        · show (Dg.plainL 1 (m : Int)).reverse = _
          rw [e1]; rfl
      rw [e]
      exact hr
  · subst hs
    obtain ⟨m, rfl⟩ := Int.eq_ofNat_of_zero_le h0
    cases comp
    · cases be
      · exact putUint_le2 b g big chunk out m w h (by omega) hlim
      · exact putUint_be2 b g big chunk out m w h (by omega) hlim
    · have hr := putUint_packed b g big chunk out m 2 be w h (by omega) (by omega) (by omega) (by omega) hlim
      exact hr
  · subst hs
    obtain ⟨m, rfl⟩ := Int.eq_ofNat_of_zero_le h0
    cases comp
    · cases be
      · exact putUint_le4 b g big chunk out m w h (by omega) hlim
      · exact putUint_be4 b g big chunk out m w h (by omega) hlim
    · have hr := putUint_packed b g big chunk out m 4 be w h (by omega) (by omega) (by omega) (by omega) hlim
      exact hr
  · subst hs
    obtain ⟨m, rfl⟩ := Int.eq_ofNat_of_zero_le h0
    cases comp
    · cases be
      · exact putUint_le8 b g big chunk out m w h (by omega) hlim
      · exact putUint_be8 b g big chunk out m w h (by omega) hlim
    · have hr := putUint_packed b g big chunk out m 8 be w h (by omega) (by omega) (by omega) (by omega) hlim
      exact hr
end Go.Proofs.YtdnahdddkagfhaaDoor.X
