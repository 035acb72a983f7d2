/- A session's other writers: PutBytes, PutClr as a whole, PutKeyVal, WriteFixedClr; Bytes, Output, bytes.Clone of whatever is read. -/
import Derived.Test.YtdnahdddkagfhaaDoorWc
namespace Go.Proofs.YtdnahdddkagfhaaDoor.X
open Go.RowKit Go.Proofs.YtdnahdddkagfhaaDoorW.PrintWords Go.Proofs.YtdnahdddkagfhaaDoorW.PrintMore
attribute [local go_sem] setCell_drewN alloc_drewN
set_option linter.unusedVariables false
set_option linter.unusedSimpArgs false
/-- bytes.Clone of a slice that is read. -/
theorem clone_any (A : Option Addr) (c : Nat) (l : List Int) (w : World) (hC : Kd.C (Kd.int .u8) w A l.length l) (hbig : l.length ≤ 140737488355328) :
    Calls Tryd.prog 17 #[.slice A l.length c] w fun e w' => ∃ v, e = .returned v ∧ Kd.R (Kd.int .u8) 5 w' w.heap.size (fun _ => True) v l ∧ Below w.heap.size w w' := by
  cases A with
  | none =>
    have hl : l = [] := by
      by_cases h : 0 < l.length
      · obtain ⟨g, o, e, _⟩ := C_base hC h
        cases e
      · exact List.eq_nil_of_length_eq_zero (by omega)
    subst hl
    refine (Tryd.bytes_Clone_nil 0 c w).mono ?_
    rintro e w' ⟨rfl, rfl⟩
    exact ⟨_, rfl, Kd.R_nil _ _ _ _ _, Below.refl _ _⟩
  | some a =>
    refine (Tryd.bytes_Clone_at a l.length c l w rfl hbig (fun i hi => ?_)).mono ?_
    · obtain ⟨g, o, e, _, hc⟩ := C_base hC (by omega)
      injection e with e
      subst e
      rw [Lib.addr_add]
      exact hc i hi
    · rintro e w' ⟨v, rfl, hown, -, hb⟩
      exact ⟨v, rfl, Kd.R_of_own hown (fun _ _ => trivial), hb⟩
namespace Ses
/-- What is known of a clone's value. -/
theorem R_slots {w : World} {base : Nat} {ok : Nat → Prop} {v : Value} {l : List Int} {e : Nat} (h : Kd.R (Kd.int .u8) e w base ok v l) : ∃ A c, v = .slice A l.length c ∧ l.length ≤ c ∧ Kd.C (Kd.int .u8) w A l.length l ∧ (∀ a, A = some a → base ≤ a.block ∧ a.block < w.heap.size) ∧ c ≤ 9223372036854775807 := by
  obtain ⟨inner, ho⟩ := Kd.R_own h
  obtain ⟨A, c, rfl, hle, hC⟩ := Kd.R_reads h
  refine ⟨A, c, rfl, hle, hC, fun a ha => ?_, ?_⟩
  · subst ha
    exact ⟨Kd.R_base h a.block rfl, Kd.R_lt h a.block rfl⟩
  · rcases ho.2 with ⟨e, _⟩ | ⟨g, cap, cur, e, _, _, r⟩
    · injection e with _ _ e
      omega
    · injection e with _ _ e
      have := r.2.1
      unfold maxLen at this
      omega
end Ses
/-- PutBytes of a session. -/
theorem putBytes_any (b g : Nat) (big : Bool) (chunk : Int) (out p : List Int) (A : Option Addr) (cp : Nat) (w : World) (h : Ses.WS w b g big chunk out) (hC : Kd.C (Kd.int .u8) w A p.length p) (hab : ∀ a, A = some a → a.block ≠ b) (hlim : out.length + p.length ≤ 140737488355328) :
    Calls Tryd.prog 40 #[.pointer (some ⟨b, 0, none⟩), .slice A p.length cp] w (Ses.WP (.tuple #[]) b g big chunk (out ++ p) w) := by
  have HW := Lib.hid (Ses.ws_write b g big chunk out p A cp w h hC hab hlim)
  clear h hC hab
  go_enter Tryd.func40, Tryd.ntmps40
  go_wp2_with (go_at_call 58; (with_reducible refine HW.out.mono ?_); rintro e w4 ⟨rfl, g4, hst⟩; have HSt := Lib.hid hst; clear hst)
  go_end0
  exact ⟨rfl, g4, HSt.out⟩
theorem putClr_any (b g : Nat) (big : Bool) (c : Nat) (out data : List Int) (A : Option Addr) (cp : Nat) (w : World) (h : Ses.WS w b g big (c : Int) out) (hC : Kd.C (Kd.int .u8) w A data.length data) (hle : data.length ≤ cp) (hcp : cp ≤ 9223372036854775807) (hab : ∀ a, A = some a → a.block ≠ b ∧ a.block ≠ g) (hd2 : data.length ≤ 100000) (hc1 : 1 ≤ c) (hc2 : c ≤ 252) (hlim : out.length + 2000000 ≤ 140737488355328) :
    Calls Tryd.prog 41 #[.pointer (some ⟨b, 0, none⟩), .slice A data.length cp] w (Ses.WP (.tuple #[]) b g big (c : Int) (out ++ Dg.clrB big c data) w) := by
  unfold Dg.clrB
  split
  · exact putClr_short b g big (c : Int) out data A cp w h hC hab (by assumption) (by omega)
  · exact putClr_long b g big c out data A cp w h hC hle hcp hab (by omega) hd2 hc1 hc2 hlim
namespace Dg
/-- A DLC: its number, compressed, and a CLR; a 0 for nothing. -/
def dlcB (big : Bool) (c : Nat) (l : List Int) : List Int := if l = [] then [0] else packed (l.length : Int) ++ clrB big c l
theorem packed_len (x : Int) : (packed x).length ≤ 9 := by
  rw [packed, List.length_cons, List.length_reverse]
  have := dg_len x
  omega
theorem dlcB_len (big : Bool) (c : Nat) (hc : 1 ≤ c) (l : List Int) : (dlcB big c l).length ≤ 10 * l.length + 12 := by
  unfold dlcB
  split
  · simp
  · have h1 := packed_len (l.length : Int)
    have h2 := clrB_len big c hc l
    rw [List.length_append]
    omega
/-- Bytes behind their number, or behind 254 and their number in four bytes. -/
def fixedB (l : List Int) : List Int := if l.length ≤ 252 then (l.length : Int) :: l else 254 :: ((plainL 4 (l.length : Int)).reverse ++ l)
theorem fixedB_len (l : List Int) : (fixedB l).length ≤ l.length + 5 := by
  unfold fixedB
  split
  · simp
  · simp [plainL_len]; omega
end Dg
set_option maxHeartbeats 8000000 in
set_option maxRecDepth 100000 in
/-- PutKeyVal of a session. -/
theorem putKeyVal_any (b g : Nat) (big : Bool) (c : Nat) (out k v : List Int) (fl : Nat) (A B : Option Addr) (cA cB : Nat) (w : World) (h : Ses.WS w b g big (c : Int) out) (hA : Kd.C (Kd.int .u8) w A k.length k) (hB : Kd.C (Kd.int .u8) w B v.length v) (hlA : k.length ≤ cA) (hlB : v.length ≤ cB) (hcA : cA ≤ 9223372036854775807) (hcB : cB ≤ 9223372036854775807) (habA : ∀ a, A = some a → a.block ≠ b ∧ a.block ≠ g ∧ a.block < w.heap.size) (habB : ∀ a, B = some a → a.block ≠ b ∧ a.block ≠ g ∧ a.block < w.heap.size) (hkA : k.length ≤ 100000) (hkB : v.length ≤ 100000) (hc1 : 1 ≤ c) (hc2 : c ≤ 252) (hfl : fl ≤ 255) (hlim : out.length + 10000000 ≤ 140737488355328) :
    Calls Tryd.prog 44 #[.pointer (some ⟨b, 0, none⟩), .slice A k.length cA, .slice B v.length cB, .int .u8 fl] w (Ses.WP (.tuple #[]) b g big (c : Int) (out ++ Dg.dlcB big c k ++ Dg.dlcB big c v ++ Dg.packed (fl : Int)) w) := by
  have HLim := Lib.hid hlim
  have HWS := Lib.hid h
  have HA := Lib.hid hA
  have HB := Lib.hid hB
  have HAa := Lib.hid habA
  have HAb := Lib.hid habB
  have HcA := Lib.hid hlA
  have HcB := Lib.hid hlB
  have HdA := Lib.hid (Dg.dlcB_len big c hc1 k)
  have HdB := Lib.hid (Dg.dlcB_len big c hc1 v)
  have HBy := Lib.hid (fun (W : World) (g' : Nat) (o : List Int) (x : Int) (h : Ses.WS W b g' big (c : Int) o) (hz : o.length ≤ out.length + 5000000) => Ses.ws_byte b g' big (c : Int) o x W h (by have := HLim.out; omega))
  have HPu : Hid (∀ (W : World) (g' : Nat) (o : List Int) (m : Nat), Ses.WS W b g' big (c : Int) o → o.length ≤ out.length + 5000000 → m ≤ 100000 → Calls Tryd.prog 43 #[.pointer (some ⟨b, 0, none⟩), .iface 3 (.int .i64 m), .int .u8 4, .bool true, .bool true] W (Ses.WP (.tuple #[]) b g' big (c : Int) (o ++ Dg.packed m) W)) := Lib.hid (fun W g' o m h hz hm => putUint_packed_int b g' big (c : Int) o m 4 true W h (by omega) (by omega) (by omega) (by omega) (by have := HLim.out; omega))
  have HPi : Hid (∀ (W : World) (g' : Nat) (o : List Int), Ses.WS W b g' big (c : Int) o → o.length ≤ out.length + 5000000 → Calls Tryd.prog 42 #[.pointer (some ⟨b, 0, none⟩), .iface 5 (.int .u8 fl), .int .u8 4, .bool true, .bool true] W (Ses.WP (.tuple #[]) b g' big (c : Int) (o ++ Dg.packed fl) W)) := Lib.hid (fun W g' o h hz => putInt_packed_u8 b g' big (c : Int) o fl 4 true W h (by omega) (by omega) (by omega) (by omega) (by have := HLim.out; omega))
  have HClA := Lib.hid (fun (W : World) (g' : Nat) (o : List Int) (h : Ses.WS W b g' big (c : Int) o) (hz : o.length ≤ out.length + 5000000) (hC : Kd.C (Kd.int .u8) W A k.length k) (hg : ∀ a, A = some a → a.block ≠ g') => putClr_any b g' big c o k A cA W h hC hlA hcA (fun a e => ⟨(HAa.out a e).1, hg a e⟩) hkA hc1 hc2 (by have := HLim.out; omega))
  have HClB := Lib.hid (fun (W : World) (g' : Nat) (o : List Int) (h : Ses.WS W b g' big (c : Int) o) (hz : o.length ≤ out.length + 5000000) (hC : Kd.C (Kd.int .u8) W B v.length v) (hg : ∀ a, B = some a → a.block ≠ g') => putClr_any b g' big c o v B cB W h hC hlB hcB (fun a e => ⟨(HAb.out a e).1, hg a e⟩) hkB hc1 hc2 (by have := HLim.out; omega))
  have HCk : Hid (∀ (W : World) (g' : Nat) (o : List Int), Ses.WStep w W b g g' big (c : Int) o → (Kd.C (Kd.int .u8) W A k.length k ∧ ∀ a, A = some a → a.block ≠ g') ∧ (Kd.C (Kd.int .u8) W B v.length v ∧ ∀ a, B = some a → a.block ≠ g')) := Lib.hid (fun W g' o hS => by
    have far : ∀ (C : Option Addr), (∀ a, C = some a → a.block ≠ b ∧ a.block ≠ g ∧ a.block < w.heap.size) → ∀ a, C = some a → a.block ≠ g' := by
      intro C hab a ha e
      have h1 := hab a ha
      rcases hS.row with h2 | h2 <;> omega
    exact ⟨⟨Ses.C_kp2 HA.out hS.kept (fun a e => (HAa.out a e).1) (fun a e => (HAa.out a e).2.1), far A HAa.out⟩, ⟨Ses.C_kp2 HB.out hS.kept (fun a e => (HAb.out a e).1) (fun a e => (HAb.out a e).2.1), far B HAb.out⟩⟩)
  have HCur : Hid (Ses.WStep w w b g g big (c : Int) out) := Lib.hid (Ses.WStep.of h)
  have HP1 := Lib.hid (Dg.packed_len (k.length : Int))
  have HP2 := Lib.hid (Dg.packed_len (v.length : Int))
  have HL1 := Lib.hid (Dg.clrB_len big c hc1 k)
  have HL2 := Lib.hid (Dg.clrB_len big c hc1 v)
  clear h hA hB habA habB hlim hlA hlB hcA hcB hc1 hc2
  obtain ⟨nk, hnk⟩ : ∃ nk, nk = k.length := ⟨_, rfl⟩
  obtain ⟨nv, hnv⟩ : ∃ nv, nv = v.length := ⟨_, rfl⟩
  have HNk := Lib.hid hnk
  have HNv := Lib.hid hnv
  have ek : Dg.dlcB big c k = if nk = 0 then [0] else Dg.packed (nk : Int) ++ Dg.clrB big c k := by
    unfold Dg.dlcB
    rw [hnk]
    simp only [List.length_eq_zero_iff]
  have ev : Dg.dlcB big c v = if nv = 0 then [0] else Dg.packed (nv : Int) ++ Dg.clrB big c v := by
    unfold Dg.dlcB
    rw [hnv]
    simp only [List.length_eq_zero_iff]
  rw [ek, ev]
  rw [← hnk] at HClA HP1 HL1 hkA ⊢
  rw [← hnv] at HClB HP2 HL2 hkB ⊢
  clear hnk hnv ek ev
  by_cases hk0 : nk = 0
  all_goals by_cases hv0 : nv = 0
  · rw [if_pos hk0, if_pos hv0]
    have tk : ((nk : Int) == 0) = true := beq_iff_eq.2 (by omega)
    have tv : ((nv : Int) == 0) = true := beq_iff_eq.2 (by omega)
    go_enter Tryd.func44, Tryd.ntmps44
    go_wp2_with (first | (go_at_call 59; (with_reducible refine (HBy.out _ _ _ _ HCur.out.now ?hz).mono ?_); (case hz => (have p1 := HP1.out; have p2 := HP2.out; have l1 := HL1.out; have l2 := HL2.out; (try simp only [List.length_append, List.length_singleton]); omega)); rintro e w5 ⟨rfl, g5, hst⟩; have HTmp := Lib.hid (HCur.out.trans hst); clear hst HCur; have HCur := HTmp; clear HTmp) | (go_at_call 43; (with_reducible refine (HPu.out _ _ _ _ HCur.out.now ?hz ?hm).mono ?_); (case hz => (have p1 := HP1.out; have p2 := HP2.out; have l1 := HL1.out; have l2 := HL2.out; (try simp only [List.length_append, List.length_singleton]); omega)); (case hm => omega); rintro e w5 ⟨rfl, g5, hst⟩; have HTmp := Lib.hid (HCur.out.trans hst); clear hst HCur; have HCur := HTmp; clear HTmp) | (go_at_call 42; (with_reducible refine (HPi.out _ _ _ HCur.out.now ?hz).mono ?_); (case hz => (have p1 := HP1.out; have p2 := HP2.out; have l1 := HL1.out; have l2 := HL2.out; (try simp only [List.length_append, List.length_singleton]); omega)); rintro e w5 ⟨rfl, g5, hst⟩; have HTmp := Lib.hid (HCur.out.trans hst); clear hst HCur; have HCur := HTmp; clear HTmp) | (go_at_call 41; (with_reducible refine (HClA.out _ _ _ HCur.out.now ?hz ?hC ?hg).mono ?_); (case hz => (have p1 := HP1.out; have p2 := HP2.out; have l1 := HL1.out; have l2 := HL2.out; (try simp only [List.length_append, List.length_singleton]); omega)); (case hC => (first | (rw [HNk.out]; exact (HCk.out _ _ _ HCur.out).1.1) | (rw [HNv.out]; exact (HCk.out _ _ _ HCur.out).1.1))); (case hg => exact (HCk.out _ _ _ HCur.out).1.2); rintro e w5 ⟨rfl, g5, hst⟩; have HTmp := Lib.hid (HCur.out.trans hst); clear hst HCur; have HCur := HTmp; clear HTmp) | (go_at_call 41; (with_reducible refine (HClB.out _ _ _ HCur.out.now ?hz ?hC ?hg).mono ?_); (case hz => (have p1 := HP1.out; have p2 := HP2.out; have l1 := HL1.out; have l2 := HL2.out; (try simp only [List.length_append, List.length_singleton]); omega)); (case hC => (first | (rw [HNk.out]; exact (HCk.out _ _ _ HCur.out).2.1) | (rw [HNv.out]; exact (HCk.out _ _ _ HCur.out).2.1))); (case hg => exact (HCk.out _ _ _ HCur.out).2.2); rintro e w5 ⟨rfl, g5, hst⟩; have HTmp := Lib.hid (HCur.out.trans hst); clear hst HCur; have HCur := HTmp; clear HTmp))
    go_end0
    have hS := HCur.out
    simp only [List.append_assoc] at hS ⊢
    exact ⟨rfl, _, hS⟩
  · rw [if_pos hk0, if_neg hv0]
    have tk : ((nk : Int) == 0) = true := beq_iff_eq.2 (by omega)
    have tv : ((nv : Int) == 0) = false := beq_eq_false_iff_ne.2 (by omega)
    go_enter Tryd.func44, Tryd.ntmps44
    go_wp2_with (first | (go_at_call 59; (with_reducible refine (HBy.out _ _ _ _ HCur.out.now ?hz).mono ?_); (case hz => (have p1 := HP1.out; have p2 := HP2.out; have l1 := HL1.out; have l2 := HL2.out; (try simp only [List.length_append, List.length_singleton]); omega)); rintro e w5 ⟨rfl, g5, hst⟩; have HTmp := Lib.hid (HCur.out.trans hst); clear hst HCur; have HCur := HTmp; clear HTmp) | (go_at_call 43; (with_reducible refine (HPu.out _ _ _ _ HCur.out.now ?hz ?hm).mono ?_); (case hz => (have p1 := HP1.out; have p2 := HP2.out; have l1 := HL1.out; have l2 := HL2.out; (try simp only [List.length_append, List.length_singleton]); omega)); (case hm => omega); rintro e w5 ⟨rfl, g5, hst⟩; have HTmp := Lib.hid (HCur.out.trans hst); clear hst HCur; have HCur := HTmp; clear HTmp) | (go_at_call 42; (with_reducible refine (HPi.out _ _ _ HCur.out.now ?hz).mono ?_); (case hz => (have p1 := HP1.out; have p2 := HP2.out; have l1 := HL1.out; have l2 := HL2.out; (try simp only [List.length_append, List.length_singleton]); omega)); rintro e w5 ⟨rfl, g5, hst⟩; have HTmp := Lib.hid (HCur.out.trans hst); clear hst HCur; have HCur := HTmp; clear HTmp) | (go_at_call 41; (with_reducible refine (HClA.out _ _ _ HCur.out.now ?hz ?hC ?hg).mono ?_); (case hz => (have p1 := HP1.out; have p2 := HP2.out; have l1 := HL1.out; have l2 := HL2.out; (try simp only [List.length_append, List.length_singleton]); omega)); (case hC => (first | (rw [HNk.out]; exact (HCk.out _ _ _ HCur.out).1.1) | (rw [HNv.out]; exact (HCk.out _ _ _ HCur.out).1.1))); (case hg => exact (HCk.out _ _ _ HCur.out).1.2); rintro e w5 ⟨rfl, g5, hst⟩; have HTmp := Lib.hid (HCur.out.trans hst); clear hst HCur; have HCur := HTmp; clear HTmp) | (go_at_call 41; (with_reducible refine (HClB.out _ _ _ HCur.out.now ?hz ?hC ?hg).mono ?_); (case hz => (have p1 := HP1.out; have p2 := HP2.out; have l1 := HL1.out; have l2 := HL2.out; (try simp only [List.length_append, List.length_singleton]); omega)); (case hC => (first | (rw [HNk.out]; exact (HCk.out _ _ _ HCur.out).2.1) | (rw [HNv.out]; exact (HCk.out _ _ _ HCur.out).2.1))); (case hg => exact (HCk.out _ _ _ HCur.out).2.2); rintro e w5 ⟨rfl, g5, hst⟩; have HTmp := Lib.hid (HCur.out.trans hst); clear hst HCur; have HCur := HTmp; clear HTmp))
    go_end0
    have hS := HCur.out
    simp only [List.append_assoc] at hS ⊢
    exact ⟨rfl, _, hS⟩
  · rw [if_neg hk0, if_pos hv0]
    have tk : ((nk : Int) == 0) = false := beq_eq_false_iff_ne.2 (by omega)
    have tv : ((nv : Int) == 0) = true := beq_iff_eq.2 (by omega)
    go_enter Tryd.func44, Tryd.ntmps44
    go_wp2_with (first | (go_at_call 59; (with_reducible refine (HBy.out _ _ _ _ HCur.out.now ?hz).mono ?_); (case hz => (have p1 := HP1.out; have p2 := HP2.out; have l1 := HL1.out; have l2 := HL2.out; (try simp only [List.length_append, List.length_singleton]); omega)); rintro e w5 ⟨rfl, g5, hst⟩; have HTmp := Lib.hid (HCur.out.trans hst); clear hst HCur; have HCur := HTmp; clear HTmp) | (go_at_call 43; (with_reducible refine (HPu.out _ _ _ _ HCur.out.now ?hz ?hm).mono ?_); (case hz => (have p1 := HP1.out; have p2 := HP2.out; have l1 := HL1.out; have l2 := HL2.out; (try simp only [List.length_append, List.length_singleton]); omega)); (case hm => omega); rintro e w5 ⟨rfl, g5, hst⟩; have HTmp := Lib.hid (HCur.out.trans hst); clear hst HCur; have HCur := HTmp; clear HTmp) | (go_at_call 42; (with_reducible refine (HPi.out _ _ _ HCur.out.now ?hz).mono ?_); (case hz => (have p1 := HP1.out; have p2 := HP2.out; have l1 := HL1.out; have l2 := HL2.out; (try simp only [List.length_append, List.length_singleton]); omega)); rintro e w5 ⟨rfl, g5, hst⟩; have HTmp := Lib.hid (HCur.out.trans hst); clear hst HCur; have HCur := HTmp; clear HTmp) | (go_at_call 41; (with_reducible refine (HClA.out _ _ _ HCur.out.now ?hz ?hC ?hg).mono ?_); (case hz => (have p1 := HP1.out; have p2 := HP2.out; have l1 := HL1.out; have l2 := HL2.out; (try simp only [List.length_append, List.length_singleton]); omega)); (case hC => (first | (rw [HNk.out]; exact (HCk.out _ _ _ HCur.out).1.1) | (rw [HNv.out]; exact (HCk.out _ _ _ HCur.out).1.1))); (case hg => exact (HCk.out _ _ _ HCur.out).1.2); rintro e w5 ⟨rfl, g5, hst⟩; have HTmp := Lib.hid (HCur.out.trans hst); clear hst HCur; have HCur := HTmp; clear HTmp) | (go_at_call 41; (with_reducible refine (HClB.out _ _ _ HCur.out.now ?hz ?hC ?hg).mono ?_); (case hz => (have p1 := HP1.out; have p2 := HP2.out; have l1 := HL1.out; have l2 := HL2.out; (try simp only [List.length_append, List.length_singleton]); omega)); (case hC => (first | (rw [HNk.out]; exact (HCk.out _ _ _ HCur.out).2.1) | (rw [HNv.out]; exact (HCk.out _ _ _ HCur.out).2.1))); (case hg => exact (HCk.out _ _ _ HCur.out).2.2); rintro e w5 ⟨rfl, g5, hst⟩; have HTmp := Lib.hid (HCur.out.trans hst); clear hst HCur; have HCur := HTmp; clear HTmp))
    go_end0
    have hS := HCur.out
    simp only [List.append_assoc] at hS ⊢
    exact ⟨rfl, _, hS⟩
  · rw [if_neg hk0, if_neg hv0]
    have tk : ((nk : Int) == 0) = false := beq_eq_false_iff_ne.2 (by omega)
    have tv : ((nv : Int) == 0) = false := beq_eq_false_iff_ne.2 (by omega)
    go_enter Tryd.func44, Tryd.ntmps44
    go_wp2_with (first | (go_at_call 59; (with_reducible refine (HBy.out _ _ _ _ HCur.out.now ?hz).mono ?_); (case hz => (have p1 := HP1.out; have p2 := HP2.out; have l1 := HL1.out; have l2 := HL2.out; (try simp only [List.length_append, List.length_singleton]); omega)); rintro e w5 ⟨rfl, g5, hst⟩; have HTmp := Lib.hid (HCur.out.trans hst); clear hst HCur; have HCur := HTmp; clear HTmp) | (go_at_call 43; (with_reducible refine (HPu.out _ _ _ _ HCur.out.now ?hz ?hm).mono ?_); (case hz => (have p1 := HP1.out; have p2 := HP2.out; have l1 := HL1.out; have l2 := HL2.out; (try simp only [List.length_append, List.length_singleton]); omega)); (case hm => omega); rintro e w5 ⟨rfl, g5, hst⟩; have HTmp := Lib.hid (HCur.out.trans hst); clear hst HCur; have HCur := HTmp; clear HTmp) | (go_at_call 42; (with_reducible refine (HPi.out _ _ _ HCur.out.now ?hz).mono ?_); (case hz => (have p1 := HP1.out; have p2 := HP2.out; have l1 := HL1.out; have l2 := HL2.out; (try simp only [List.length_append, List.length_singleton]); omega)); rintro e w5 ⟨rfl, g5, hst⟩; have HTmp := Lib.hid (HCur.out.trans hst); clear hst HCur; have HCur := HTmp; clear HTmp) | (go_at_call 41; (with_reducible refine (HClA.out _ _ _ HCur.out.now ?hz ?hC ?hg).mono ?_); (case hz => (have p1 := HP1.out; have p2 := HP2.out; have l1 := HL1.out; have l2 := HL2.out; (try simp only [List.length_append, List.length_singleton]); omega)); (case hC => (first | (rw [HNk.out]; exact (HCk.out _ _ _ HCur.out).1.1) | (rw [HNv.out]; exact (HCk.out _ _ _ HCur.out).1.1))); (case hg => exact (HCk.out _ _ _ HCur.out).1.2); rintro e w5 ⟨rfl, g5, hst⟩; have HTmp := Lib.hid (HCur.out.trans hst); clear hst HCur; have HCur := HTmp; clear HTmp) | (go_at_call 41; (with_reducible refine (HClB.out _ _ _ HCur.out.now ?hz ?hC ?hg).mono ?_); (case hz => (have p1 := HP1.out; have p2 := HP2.out; have l1 := HL1.out; have l2 := HL2.out; (try simp only [List.length_append, List.length_singleton]); omega)); (case hC => (first | (rw [HNk.out]; exact (HCk.out _ _ _ HCur.out).2.1) | (rw [HNv.out]; exact (HCk.out _ _ _ HCur.out).2.1))); (case hg => exact (HCk.out _ _ _ HCur.out).2.2); rintro e w5 ⟨rfl, g5, hst⟩; have HTmp := Lib.hid (HCur.out.trans hst); clear hst HCur; have HCur := HTmp; clear HTmp))
    go_end0
    have hS := HCur.out
    simp only [List.append_assoc] at hS ⊢
    exact ⟨rfl, _, hS⟩
set_option maxHeartbeats 4000000 in
set_option maxRecDepth 100000 in
/-- WriteUint of an int in four bytes, the most significant one ahead, to a buffer. -/
theorem writeUint_be4 (b0 b q g : Nat) (T : TypeId) (cs : Array Value) (out : List Int) (n : Nat) (w : World) (h : BufA w b q g T cs out) (hn : (n : Int) < 4294967296) (hlim : out.length + 9 ≤ 140737488355328) :
    Calls Tryd.prog 67 #[.pointer (some ⟨b0, 0, none⟩), .pointer (some ⟨b, q, none⟩), .iface 3 (.int .i64 n), .int .u8 4, .bool true, .bool false] w (BufP (.tuple #[]) b q g T cs (out ++ (Dg.plainL 4 (n : Int)).reverse) w) := by
  have htb := h.lt
  have htg := h.ltg
  have HMk := Ses.mk4
  have HPut := Lib.hid (fun W : World => Ses.bePut4 W.heap.size 4 n Ses.zeros4b (W.alloc (.cells Ses.zeros4b 5)) (by omega) (xb_new W _) rfl)
  have HWS := Lib.hid h
  have pu : IntKind.u64.wrap (n : Int) = (n : Int) := by simp [IntKind.wrap, IntKind.bits, IntKind.signed]; omega
  have pw : IntKind.u32.wrap (n : Int) = (n : Int) := by simp [IntKind.wrap, IntKind.bits, IntKind.signed]; omega
  have HLim := Lib.hid hlim
  have t0 := Ses.ta_int_int64; have t1 := Ses.ta_int_int32; have t2 := Ses.ta_int_int16; have t3 := Ses.ta_int_int8; have t4 := Ses.ta_int_uint64; have t5 := Ses.ta_int_uint32; have t6 := Ses.ta_int_uint16; have t7 := Ses.ta_int_uint8; have t8 := Ses.ta_int_uint; have t9 := Ses.ta_int_int
  have hll : (Dg.plainL 4 (n : Int)).reverse.length = 4 := by rw [List.length_reverse, Dg.plainL_len]
  obtain ⟨l, hl⟩ : ∃ l, l = (Dg.plainL 4 (n : Int)).reverse := ⟨_, rfl⟩
  rw [← hl] at HPut hll ⊢
  have HLl := Lib.hid hll
  have HNb := Lib.hid (show ¬ w.heap.size = b by omega)
  have HNg := Lib.hid (show ¬ w.heap.size = g by omega)
  clear h hl hll hlim hn
  have HW3 : Hid (∀ W : World, (w.alloc (.cells Ses.zeros4b 5)).grownBy W (some w.heap.size) → BufA W b q g T cs out) := Lib.hid (fun W hW => (HWS.out.bl (below_alloc (Below.refl _ _) _)).grown hW (fun e => HNb.out (Option.some.inj e).symm) (fun e => HNg.out (Option.some.inj e).symm))
  have HWr : Hid (∀ W : World, Ses.RowAt W w.heap.size l → BufA W b q g T cs out → Calls Tryd.prog 58 #[.pointer (some ⟨b, q, none⟩), .slice (some ⟨w.heap.size, 0, none⟩) 4 4] W (BufP (.tuple #[.int .i64 4, .nilIface]) b q g T cs (out ++ l) W)) := Lib.hid (fun W hr h => by
    have hC := C_of (k := .u8) (w := W) (l := l) (g := w.heap.size) (o := 0) (by rw [HLl.out]; omega) (fun i hi => by rw [Nat.zero_add]; exact hr i hi)
    have hw := write_any b q g T cs out l (some ⟨w.heap.size, 0, none⟩) 4 W h hC (fun a e => by injection e with e; subst e; exact HNb.out) (by rw [HLl.out]; have := HLim.out; omega)
    rw [HLl.out] at hw
    exact hw)
  go_enter Tryd.func67, Tryd.ntmps67
  go_wp2_with (first | (go_at_call 63; (with_reducible refine (HPut.out _).mono ?_); rintro e w2 ⟨rfl, hrow, hgr⟩; have HRow := Lib.hid hrow; have HGr := Lib.hid hgr; clear hrow hgr) | (go_at_call 58; (with_reducible refine (HWr.out _ HRow.out ?hws).mono ?_); (case hws => exact HW3.out _ HGr.out); rintro e w5 ⟨rfl, g5, cs5, hst⟩; have HSu := Lib.hid hst; clear hst))
  go_end0
  exact ⟨rfl, g5, cs5, HSu.out.from (Ses.below_put HGr.out) htg⟩
set_option maxHeartbeats 4000000 in
set_option maxRecDepth 100000 in
/-- WriteFixedClr to a buffer. -/
theorem fixedClr_any (b0 b q g : Nat) (T : TypeId) (cs : Array Value) (out data : List Int) (A : Option Addr) (cp : Nat) (w : World) (h : BufA w b q g T cs out) (hC : Kd.C (Kd.int .u8) w A data.length data) (hab : ∀ a, A = some a → a.block ≠ b ∧ a.block ≠ g) (hd2 : data.length ≤ 100000) (hlim : out.length + 2000000 ≤ 140737488355328) :
    Calls Tryd.prog 45 #[.pointer (some ⟨b0, 0, none⟩), .pointer (some ⟨b, q, none⟩), .slice A data.length cp] w (BufP (.tuple #[]) b q g T cs (out ++ Dg.fixedB data) w) := by
  have HLim := Lib.hid hlim
  have HC := Lib.hid hC
  have HAb := Lib.hid hab
  have HCur : Hid (BufS w w b q g g T cs cs out) := Lib.hid (BufS.of h)
  obtain ⟨n, hn⟩ : ∃ n, n = data.length := ⟨_, rfl⟩
  have HN := Lib.hid hn
  have HBy := Lib.hid (fun (W : World) (g' : Nat) (cs' : Array Value) (o : List Int) (x : Int) (h : BufA W b q g' T cs' o) (hz : o.length ≤ out.length + 1000) => writeByte_any b q g' T cs' o x W h (by have := HLim.out; omega))
  have HUi : Hid (∀ (W : World) (g' : Nat) (cs' : Array Value) (o : List Int), BufA W b q g' T cs' o → o.length ≤ out.length + 1000 → Calls Tryd.prog 67 #[.pointer (some ⟨b0, 0, none⟩), .pointer (some ⟨b, q, none⟩), .iface 3 (.int .i64 n), .int .u8 4, .bool true, .bool false] W (BufP (.tuple #[]) b q g' T cs' (o ++ (Dg.plainL 4 (n : Int)).reverse) W)) := Lib.hid (fun W g' cs' o h hz => writeUint_be4 b0 b q g' T cs' o n W h (by omega) (by have := HLim.out; omega))
  have HWr := Lib.hid (fun (W : World) (g' : Nat) (cs' : Array Value) (o : List Int) (h : BufA W b q g' T cs' o) (hz : o.length ≤ out.length + 1000) (hC : Kd.C (Kd.int .u8) W A data.length data) => write_any b q g' T cs' o data A cp W h hC (fun a e => (HAb.out a e).1) (by have := HLim.out; omega))
  have HCk : Hid (∀ (W : World) (g' : Nat) (cs' : Array Value) (o : List Int), BufS w W b q g g' T cs cs' o → Kd.C (Kd.int .u8) W A data.length data) := Lib.hid (fun W g' cs' o hS => Ses.C_kp2 HC.out hS.kept (fun a e => (HAb.out a e).1) (fun a e => (HAb.out a e).2))
  have ef : Dg.fixedB data = if n ≤ 252 then (n : Int) :: data else 254 :: ((Dg.plainL 4 (n : Int)).reverse ++ data) := by rw [hn]; rfl
  rw [ef]
  rw [← hn] at HWr hd2 ⊢
  clear h hC hab hlim hn ef
  have hll : (Dg.plainL 4 (n : Int)).reverse.length = 4 := by rw [List.length_reverse, Dg.plainL_len]
  have HLl := Lib.hid hll
  clear hll
  by_cases hs : n ≤ 252
  · rw [if_pos hs]
    have t0 : decide ((n : Int) > 252) = false := decide_eq_false (by omega)
    have pw : IntKind.u8.wrap (n : Int) = (n : Int) := by simp [IntKind.wrap, IntKind.bits, IntKind.signed]; omega
    go_enter Tryd.func45, Tryd.ntmps45
    go_wp2_with (first | (go_at_call 59; (with_reducible refine (HBy.out _ _ _ _ _ HCur.out.now ?hz).mono ?_); (case hz => (have l1 := HLl.out; (try simp only [List.length_append, List.length_singleton]); omega)); rintro e w5 ⟨rfl, g5, cs5, hst⟩; have HTmp := Lib.hid (HCur.out.trans hst); clear hst HCur; have HCur := HTmp; clear HTmp) | (go_at_call 67; (with_reducible refine (HUi.out _ _ _ _ HCur.out.now ?hz).mono ?_); (case hz => (have l1 := HLl.out; (try simp only [List.length_append, List.length_singleton]); omega)); rintro e w5 ⟨rfl, g5, cs5, hst⟩; have HTmp := Lib.hid (HCur.out.trans hst); clear hst HCur; have HCur := HTmp; clear HTmp) | (go_at_call 58; (with_reducible refine (HWr.out _ _ _ _ HCur.out.now ?hz ?hC).mono ?_); (case hz => (have l1 := HLl.out; (try simp only [List.length_append, List.length_singleton]); omega)); (case hC => (rw [HN.out]; exact HCk.out _ _ _ _ HCur.out)); rintro e w5 ⟨rfl, g5, cs5, hst⟩; have HTmp := Lib.hid (HCur.out.trans hst); clear hst HCur; have HCur := HTmp; clear HTmp))
    go_end0
    have hS := HCur.out
    simp only [List.append_assoc, List.cons_append, List.nil_append] at hS ⊢
    exact ⟨rfl, _, _, hS⟩
  · rw [if_neg hs]
    have t0 : decide ((n : Int) > 252) = true := decide_eq_true (by omega)
    go_enter Tryd.func45, Tryd.ntmps45
    go_wp2_with (first | (go_at_call 59; (with_reducible refine (HBy.out _ _ _ _ _ HCur.out.now ?hz).mono ?_); (case hz => (have l1 := HLl.out; (try simp only [List.length_append, List.length_singleton]); omega)); rintro e w5 ⟨rfl, g5, cs5, hst⟩; have HTmp := Lib.hid (HCur.out.trans hst); clear hst HCur; have HCur := HTmp; clear HTmp) | (go_at_call 67; (with_reducible refine (HUi.out _ _ _ _ HCur.out.now ?hz).mono ?_); (case hz => (have l1 := HLl.out; (try simp only [List.length_append, List.length_singleton]); omega)); rintro e w5 ⟨rfl, g5, cs5, hst⟩; have HTmp := Lib.hid (HCur.out.trans hst); clear hst HCur; have HCur := HTmp; clear HTmp) | (go_at_call 58; (with_reducible refine (HWr.out _ _ _ _ HCur.out.now ?hz ?hC).mono ?_); (case hz => (have l1 := HLl.out; (try simp only [List.length_append, List.length_singleton]); omega)); (case hC => (rw [HN.out]; exact HCk.out _ _ _ _ HCur.out)); rintro e w5 ⟨rfl, g5, cs5, hst⟩; have HTmp := Lib.hid (HCur.out.trans hst); clear hst HCur; have HCur := HTmp; clear HTmp))
    go_end0
    have hS := HCur.out
    simp only [List.append_assoc, List.cons_append, List.nil_append] at hS ⊢
    exact ⟨rfl, _, _, hS⟩
set_option maxHeartbeats 1000000 in
set_option maxRecDepth 100000 in
/-- Bytes of a buffer. -/
theorem bytes_any (b q g : Nat) (T : TypeId) (cs : Array Value) (out : List Int) (w : World) (h : BufA w b q g T cs out) :
    Calls Tryd.prog 46 #[.pointer (some ⟨b, q, none⟩)] w fun e w' => ∃ A c, e = .returned (.slice A out.length c) ∧ (A = none ∨ A = some ⟨g, 0, none⟩ ∧ ¬ g = b) ∧ Kd.C (Kd.int .u8) w A out.length out ∧ out.length ≤ c ∧ ∃ n, w' = w.drewN n := by
  obtain ⟨hb, h1, h2, h4⟩ := h
  rcases h4 with ⟨h0, rfl, rfl⟩ | ⟨hgb, cap, cur, h0, hg, hcs, hcm, hlc, hold⟩
  · have c0 := (xb_cell hb q).trans h0
    have c1 := (xb_cell hb (q + 1)).trans h1
    clear hb h0 h1 h2
    go_enter Tryd.func46, Tryd.ntmps46
    go_wp2
    go_quiet (fail)
    go_wp2
    go_ret
    exact ⟨none, 0, ret_eq (by first | rfl | simp), .inl rfl, C_empty _ _ _, Nat.le_refl _, _, rfl⟩
  · refine (bufBytes b q g out.length cap w ((xb_cell hb q).trans h0) ((xb_cell hb (q + 1)).trans h1) hlc (by unfold maxLen at hcm; exact hcm)).mono ?_
    rintro e w' ⟨rfl, hd⟩
    obtain ⟨n, rfl⟩ := hd.out
    refine ⟨_, _, rfl, .inr ⟨rfl, hgb⟩, ?_, hlc, n, rfl⟩
    refine C_of (by unfold maxLen at hcm; omega) (fun i hi => ?_)
    rw [Nat.zero_add, xb_cell hg, ← Array.getElem?_toList]
    have e : cur.toList[i]? = (nums .u8 out)[i]? := by rw [← hold, List.getElem?_take, if_pos hi]
    rw [e]
    simp [nums, List.getD_eq_getElem?_getD, List.getElem?_eq_getElem hi]
set_option maxHeartbeats 1000000 in
set_option maxRecDepth 100000 in
/-- Output of a session. -/
theorem output_any (b g : Nat) (big : Bool) (chunk : Int) (out : List Int) (w : World) (h : Ses.WS w b g big chunk out) :
    Calls Tryd.prog 47 #[.pointer (some ⟨b, 0, none⟩)] w fun e w' => ∃ A c, e = .returned (.slice A out.length c) ∧ Kd.C (Kd.int .u8) w A out.length out ∧ ∃ n, w' = w.drewN n := by
  obtain ⟨v, lr, h⟩ := h.ex
  have HB := Lib.hid (bytes_any b 1 g _ _ out w h)
  clear h
  go_enter Tryd.func47, Tryd.ntmps47
  go_wp2_with (go_at_call 46; (with_reducible refine HB.out.mono ?_); rintro e w1 ⟨A, c, rfl, hA, hC, -, n1, rfl⟩; have HC := Lib.hid hC; clear hC hA)
  go_ret
  exact ⟨A, c, rfl, HC.out, n1, rfl⟩
end Go.Proofs.YtdnahdddkagfhaaDoor.X
