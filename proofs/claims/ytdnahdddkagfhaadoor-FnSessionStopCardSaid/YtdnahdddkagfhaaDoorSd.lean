/- impl.got of a part's step: where the part stands whole, and where it is cut. -/
import Derived.Test.YtdnahdddkagfhaaDoorSb
import Derived.Test.YtdnahdddkagfhaaDoorSc
import Derived.Test.YtdnahdddkagfhaaDoorSq
import Derived.Test.YtdnahdddkagfhaaDoorGh
import Derived.Test.YtdnahdddkagfhaaDoorGv
namespace Go.Proofs.YtdnahdddkagfhaaDoor.X
open Go.RowKit Go.Proofs.YtdnahdddkagfhaaDoorW.PrintWords Go.Proofs.YtdnahdddkagfhaaDoorW.PrintMore
set_option linter.unusedVariables false
set_option linter.unusedSimpArgs false
namespace Ses
theorem wrap_toI (n : Int) : wrap64 n = toI n := by
  unfold toI
  rw [IntKind.wrap_i64]
  unfold wrap64
  omega
theorem okN_lt {n s : Int} (h : OkN n s) : 0 ≤ n ∧ n < 18446744073709551616 ∧ 0 < s.toNat ∧ s.toNat ≤ 8 ∧ n < 256 ^ s.toNat ∧ ((s.toNat : Nat) : Int) = s := by
  obtain ⟨h0, h⟩ := h
  rcases h with ⟨rfl, h⟩ | ⟨rfl, h⟩ | ⟨rfl, h⟩ | ⟨rfl, h⟩
  all_goals exact ⟨h0, by omega, by decide, by decide, by simpa using h, by decide⟩
theorem long_pre (w : World) (b g c : Nat) (l : List Int) (idx : Nat) (big : Bool) (chunk : Int) (h : RS w b g c l idx big chunk) (n : Int) (hp : Pre l idx (Dg.packed n)) :
    Calls Tryd.prog 71 #[.pointer (some ⟨b, 0, none⟩)] w fun e w' => e = .returned (.bool false) ∧ RS w' b g c l idx big chunk ∧ w.grownBy w' (some b) := by
  have hl8 : (Dg.dg n).length ≤ 8 := Dg.dg_len n
  unfold Dg.packed at hp
  obtain ⟨q0, q1, q2⟩ := hp.cons
  exact long_ok w b g c l idx big chunk _ _ h (by omega) q1 (b127 ⟨_, by omega⟩) (by show ((Dg.dg n).length : Int) ≤ 8; omega)
/-- A number. -/
theorem got_num (w : World) (b g c : Nat) (l : List Int) (idx : Nat) (big : Bool) (chunk : Int) (h : RS w b g c l idx big chunk) (hby : ∀ y ∈ l, 0 ≤ y ∧ y ≤ 255) (two : Bool) (n s : Int) (be comp : Bool) (ho : OkN n s) (hp : Pre l idx (numB two n s be comp)) :
    Calls Tryd.prog 48 #[.pointer (some ⟨b, 0, none⟩), .agg #[.int .i64 4, .int .i64 s, .bool be, .bool (comp && (two || decide (1 < s)))]] w (GotQ b g c l (idx + (numB two n s be comp).length) big chunk ⟨true, [], [], toI n⟩ w) := by
  obtain ⟨n0, n1, m0, m8, n2, hs⟩ := okN_lt ho
  unfold numB at hp ⊢
  cases hcp : (comp && (two || decide (1 < s))) with
  | true =>
    rw [hcp, if_pos rfl] at hp
    rw [if_pos rfl, ← wrap_toI]
    refine (got_packed w b g c l idx (idx + (Dg.packed n).length) big chunk (wrap64 n) s be (by omega) h (fun W hr => long_pre W b g c l idx big chunk hr n hp) (fun W hr => getInt64_packedW W b g c l idx big be chunk s n hr hp n0 n1 hby)).mono ?_
    exact fun e w' k => k.q
  | false =>
    rw [hcp, if_neg (by simp)] at hp
    rw [if_neg (by simp), ← wrap_toI]
    have hlen : (if be = true then (Dg.plainL s.toNat n).reverse else Dg.plainL s.toNat n).length = s.toNat := by
      split
      · rw [List.length_reverse, Dg.plainL_len]
      · rw [Dg.plainL_len]
    rw [hlen]
    have hg := got_sized w b g c l idx (idx + s.toNat) s.toNat be big chunk (wrap64 n) h m0 m8 (fun W hr => getInt64_sized W b g c l idx s.toNat big be chunk n hr m0 m8 hp n0 n2 hby)
    rw [hs] at hg
    exact hg.mono (fun e w' k => k.q)
/-- A number that is cut. -/
theorem gotE_num (w : World) (b g c : Nat) (l : List Int) (idx : Nat) (big : Bool) (chunk : Int) (tp : TypeId) (a : Addr) (h : RS w b g c l idx big chunk) (hE : EE tp a w) (two : Bool) (n s : Int) (be comp : Bool) (ho : OkN n s) (hc : Cut l idx (numB two n s be comp)) :
    Calls Tryd.prog 48 #[.pointer (some ⟨b, 0, none⟩), .agg #[.int .i64 4, .int .i64 s, .bool be, .bool (comp && (two || decide (1 < s)))]] w (GotT b g c l big chunk w) := by
  obtain ⟨n0, n1, m0, m8, n2, hs⟩ := okN_lt ho
  unfold numB at hc
  cases hcp : (comp && (two || decide (1 < s))) with
  | true =>
    rw [hcp, if_pos rfl] at hc
    exact gotE_packed w b g c l idx big chunk tp a s be h hE (by omega) (fun W hr hw => long_cut W b g c l idx big chunk tp a hr hw n hc) (fun W hr hw => getInt64_cutPacked W b g c l idx big chunk tp a hr hw s n be hc)
  | false =>
    rw [hcp, if_neg (by simp)] at hc
    have hlen : (if be = true then (Dg.plainL s.toNat n).reverse else Dg.plainL s.toNat n).length = s.toNat := by
      split
      · rw [List.length_reverse, Dg.plainL_len]
      · rw [Dg.plainL_len]
    have hsh := hc.short
    rw [hlen] at hsh
    have hg := gotE_sized w b g c l idx big chunk tp a s.toNat be h hE m0 m8 (fun W hr hw => getInt64_cutSized W b g c l idx big chunk tp a hr hw s.toNat be m0 m8 hc.1 hsh)
    rw [hs] at hg
    exact hg
/-- A part that stands whole. -/
theorem got_whole (w : World) (b g c : Nat) (l : List Int) (idx : Nat) (big : Bool) (chunk : Int) (h : RS w b g c l idx big chunk) (hby : ∀ y ∈ l, 0 ≤ y ∧ y ≤ 255) (cc : Nat) (hc1 : 1 ≤ cc) (hc2 : cc ≤ 252) (p : SP) (hp : SPok p) (ho : OkP (conv p)) (hpre : Pre l idx (stepB big cc (conv p))) :
    Calls Tryd.prog 48 #[.pointer (some ⟨b, 0, none⟩), .agg #[.int .i64 (gsOf p).kind, .int .i64 (gsOf p).size, .bool (gsOf p).sb, .bool (gsOf p).sc]] w (GotQ b g c l (idx + (stepB big cc (conv p)).length) big chunk (gotOf p) w) := by
  have hgl := h.lt
  have hd := hp.data
  have hd2 := hp.other
  have hk6 : p.kind % 6 = 0 ∨ p.kind % 6 = 1 ∨ p.kind % 6 = 2 ∨ p.kind % 6 = 3 ∨ p.kind % 6 = 4 ∨ p.kind % 6 = 5 := by have := hp.k0; omega
  rcases hk6 with hk | hk | hk | hk | hk | hk
  · have e1 : stepB big cc (conv p) = p.data := by simp [stepB, conv, hk]
    have e2 : gsOf p = ⟨1, p.data.length, false, false⟩ := by simp [gsOf, hk]
    have e3 : gotOf p = ⟨true, p.data, [], 0⟩ := by simp [gotOf, hk]
    rw [e1] at hpre
    rw [e1, e2, e3]
    refine (got_bytes w b g c l idx (idx + p.data.length) big chunk (p.data.length : Int) false false p.data h (by omega) (by omega) (fun W hr _ => getBytes_any W b g c l idx w.heap.size big chunk p.data hr hpre hgl)).mono ?_
    exact fun e w' k => k.q
  · have e1 : stepB big cc (conv p) = Dg.clrB big cc p.data := by simp [stepB, conv, hk]
    have e2 : gsOf p = ⟨2, 0, false, false⟩ := by simp [gsOf, hk]
    have e3 : gotOf p = ⟨true, p.data, [], 0⟩ := by simp [gotOf, hk]
    rw [e1] at hpre
    rw [e1, e2, e3]
    refine (got_clr w b g c l idx (idx + (Dg.clrB big cc p.data).length) big chunk 0 false false p.data h (by omega) (by omega) (fun W hr hz => getClr_any W b g c l idx w.heap.size cc big chunk p.data hr hz (by omega) hc1 hc2 hpre hby)).mono ?_
    exact fun e w' k => k.q
  · have e1 : stepB big cc (conv p) = numB true (numOf p.kind p.size p.num) (szOf p.size) p.big p.comp := by simp [stepB, conv, hk]
    have e2 : gsOf p = ⟨4, szOf p.size, p.big, p.comp && (true || decide (1 < szOf p.size))⟩ := by simp [gsOf, hk]
    have e3 : gotOf p = ⟨true, [], [], toI (numOf p.kind p.size p.num)⟩ := by simp [gotOf, hk]
    have hn := (ho.num hk).1
    have e4 : (conv p).num = numOf p.kind p.size p.num := by simp [conv, hk]
    rw [e4] at hn
    rw [e1] at hpre
    rw [e1, e2, e3]
    exact got_num w b g c l idx big chunk h hby true _ _ _ _ hn hpre
  · have e1 : stepB big cc (conv p) = numB false (numOf p.kind p.size p.num) (szOf p.size) p.big p.comp := by simp [stepB, conv, hk]
    have e2 : gsOf p = ⟨4, szOf p.size, p.big, p.comp && (false || decide (1 < szOf p.size))⟩ := by simp [gsOf, hk]
    have e3 : gotOf p = ⟨true, [], [], toI (numOf p.kind p.size p.num)⟩ := by simp [gotOf, hk]
    have hn := ho.uns hk
    have e4 : (conv p).uns = numOf p.kind p.size p.num := by simp [conv, hk]
    rw [e4] at hn
    rw [e1] at hpre
    rw [e1, e2, e3]
    exact got_num w b g c l idx big chunk h hby false _ _ _ _ hn hpre
  · obtain ⟨f0, f1⟩ := ho.flag
    have f0' : 0 ≤ p.flag := f0
    have f1' : p.flag ≤ 255 := f1
    have hfl : ((p.flag.toNat : Nat) : Int) = p.flag := by omega
    have e1 : stepB big cc (conv p) = Dg.dlcB big cc p.data ++ Dg.dlcB big cc p.other ++ Dg.packed ((p.flag.toNat : Nat) : Int) := by rw [hfl]; simp [stepB, conv, hk]
    have e2 : gsOf p = ⟨6, 0, false, false⟩ := by simp [gsOf, hk]
    have e3 : gotOf p = ⟨true, p.data, p.other, ((p.flag.toNat : Nat) : Int)⟩ := by rw [hfl]; simp [gotOf, hk]
    rw [e1] at hpre
    rw [e1, e2, e3]
    refine (got_keyval w b g c l idx _ big chunk 0 false false p.data p.other _ h (by omega) (by omega) (by omega) (fun W hr hz => getKeyVal_any W b g c l idx w.heap.size cc p.flag.toNat big chunk p.data p.other hr hz (by omega) (by omega) (by omega) hc1 hc2 hpre hby)).mono ?_
    exact fun e w' k => k.q
  · have e1 : stepB big cc (conv p) = Dg.fixedB p.data := by simp [stepB, conv, hk]
    have e2 : gsOf p = ⟨8, 0, false, false⟩ := by simp [gsOf, hk]
    have e3 : gotOf p = ⟨true, p.data, [], 0⟩ := by simp [gotOf, hk]
    rw [e1] at hpre
    rw [e1, e2, e3]
    refine (got_fixed w b g c l idx (idx + (Dg.fixedB p.data).length) big chunk 0 false false p.data h (by omega) (by omega) (fun W hr hz => getFixed_any W b g c l idx w.heap.size big chunk p.data hr hgl (by omega) hpre hby)).mono ?_
    exact fun e w' k => k.q
/-- A part that is cut. -/
theorem got_torn (w : World) (b g c : Nat) (l : List Int) (idx : Nat) (big : Bool) (chunk : Int) (tp : TypeId) (a : Addr) (h : RS w b g c l idx big chunk) (hE : EE tp a w) (hby : ∀ y ∈ l, 0 ≤ y ∧ y ≤ 255) (cc : Nat) (hc1 : 1 ≤ cc) (hc2 : cc ≤ 252) (p : SP) (hp : SPok p) (ho : OkP (conv p)) (hc : Cut l idx (stepB big cc (conv p))) :
    Calls Tryd.prog 48 #[.pointer (some ⟨b, 0, none⟩), .agg #[.int .i64 (gsOf p).kind, .int .i64 (gsOf p).size, .bool (gsOf p).sb, .bool (gsOf p).sc]] w (GotT b g c l big chunk w) := by
  have hd := hp.data
  have hd2 := hp.other
  have hk6 : p.kind % 6 = 0 ∨ p.kind % 6 = 1 ∨ p.kind % 6 = 2 ∨ p.kind % 6 = 3 ∨ p.kind % 6 = 4 ∨ p.kind % 6 = 5 := by have := hp.k0; omega
  rcases hk6 with hk | hk | hk | hk | hk | hk
  · have e1 : stepB big cc (conv p) = p.data := by simp [stepB, conv, hk]
    have e2 : gsOf p = ⟨1, p.data.length, false, false⟩ := by simp [gsOf, hk]
    rw [e1] at hc
    rw [e2]
    have hsh := hc.short
    exact gotE_bytes w b g c l idx big chunk tp a (p.data.length : Int) false false h hE (by omega) (fun W hr hw => (getBytes_end W b g c l idx big chunk tp a hr hw p.data.length hsh (by omega) hc.1).mono (fun e w' k => ⟨k.1, idx, hc.1, k.2.1, k.2.2⟩))
  · have e1 : stepB big cc (conv p) = Dg.clrB big cc p.data := by simp [stepB, conv, hk]
    have e2 : gsOf p = ⟨2, 0, false, false⟩ := by simp [gsOf, hk]
    rw [e1] at hc
    rw [e2]
    exact gotE_clr w b g c l idx big chunk tp a 0 false false h hE (by omega) (fun W hr hw => getClr_cut W b g c l idx big chunk tp a hr hw cc p.data (by omega) hc1 hc2 hby hc)
  · have e1 : stepB big cc (conv p) = numB true (numOf p.kind p.size p.num) (szOf p.size) p.big p.comp := by simp [stepB, conv, hk]
    have e2 : gsOf p = ⟨4, szOf p.size, p.big, p.comp && (true || decide (1 < szOf p.size))⟩ := by simp [gsOf, hk]
    have hn := (ho.num hk).1
    have e4 : (conv p).num = numOf p.kind p.size p.num := by simp [conv, hk]
    rw [e4] at hn
    rw [e1] at hc
    rw [e2]
    exact gotE_num w b g c l idx big chunk tp a h hE true _ _ _ _ hn hc
  · have e1 : stepB big cc (conv p) = numB false (numOf p.kind p.size p.num) (szOf p.size) p.big p.comp := by simp [stepB, conv, hk]
    have e2 : gsOf p = ⟨4, szOf p.size, p.big, p.comp && (false || decide (1 < szOf p.size))⟩ := by simp [gsOf, hk]
    have hn := ho.uns hk
    have e4 : (conv p).uns = numOf p.kind p.size p.num := by simp [conv, hk]
    rw [e4] at hn
    rw [e1] at hc
    rw [e2]
    exact gotE_num w b g c l idx big chunk tp a h hE false _ _ _ _ hn hc
  · obtain ⟨f0, f1⟩ := ho.flag
    have f0' : 0 ≤ p.flag := f0
    have f1' : p.flag ≤ 255 := f1
    have hfl : ((p.flag.toNat : Nat) : Int) = p.flag := by omega
    have e1 : stepB big cc (conv p) = Dg.dlcB big cc p.data ++ Dg.dlcB big cc p.other ++ Dg.packed ((p.flag.toNat : Nat) : Int) := by rw [hfl]; simp [stepB, conv, hk]
    have e2 : gsOf p = ⟨6, 0, false, false⟩ := by simp [gsOf, hk]
    rw [e1] at hc
    rw [e2]
    exact gotE_keyval w b g c l idx big chunk tp a 0 false false h hE (by omega) (fun W hr hw => getKeyVal_cut W b g c l idx big chunk tp a hr hw cc p.flag.toNat p.data p.other (by omega) (by omega) (by omega) hc1 hc2 hby hc)
  · have e1 : stepB big cc (conv p) = Dg.fixedB p.data := by simp [stepB, conv, hk]
    have e2 : gsOf p = ⟨8, 0, false, false⟩ := by simp [gsOf, hk]
    rw [e1] at hc
    rw [e2]
    exact gotE_fixed w b g c l idx big chunk tp a 0 false false h hE (by omega) (fun W hr hw => getFixed_cut W b g c l idx big chunk tp a hr hw p.data (by omega) hby hc)
end Ses
end Go.Proofs.YtdnahdddkagfhaaDoor.X
