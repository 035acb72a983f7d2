/- PutClr of a session: a CLR of any length, in parts. -/
import Derived.Test.YtdnahdddkagfhaaDoorWv
namespace Go.Proofs.YtdnahdddkagfhaaDoor.X
open Go.RowKit Go.Proofs.YtdnahdddkagfhaaDoorW.PrintWords Go.Proofs.YtdnahdddkagfhaaDoorW.PrintMore
attribute [local go_sem] setCell_drewN alloc_drewN
set_option linter.unusedVariables false
set_option linter.unusedSimpArgs false
namespace Dg
/-- A part's number. -/
def headB (big : Bool) (n : Nat) : List Int := if big then packed n else [(n : Int)]
/-- The parts of a CLR. -/
def chunksF (big : Bool) (c : Nat) : Nat → List Int → List Int
  | 0, _ => []
  | k + 1, l => if l = [] then [] else headB big (l.take c).length ++ l.take c ++ chunksF big c k (l.drop c)
/-- A CLR. -/
def clrB (big : Bool) (c : Nat) (l : List Int) : List Int := if l.length ≤ 252 then (l.length : Int) :: l else 254 :: (chunksF big c l.length l ++ [0])
theorem chunksF_nil (big : Bool) (c k : Nat) : chunksF big c k [] = [] := by
  cases k with
  | zero => rfl
  | succ k => rw [chunksF, if_pos rfl]
theorem headB_len (big : Bool) (n : Nat) : (headB big n).length ≤ 9 := by
  unfold headB
  split
  · rw [packed, List.length_cons, List.length_reverse]
    have := dg_len (n : Int)
    omega
  · simp
theorem chunksF_len (big : Bool) (c : Nat) (hc : 1 ≤ c) : ∀ (k : Nat) (l : List Int), (chunksF big c k l).length ≤ 10 * l.length
  | 0, l => by simp [chunksF]
  | k + 1, l => by
    rw [chunksF]
    split
    · simp
    · rename_i h
      have ih := chunksF_len big c hc k (l.drop c)
      have h9 := headB_len big (l.take c).length
      have hl : 0 < l.length := List.length_pos_iff.2 h
      rw [List.length_append, List.length_append]
      rw [List.length_drop] at ih
      rw [List.length_take] at *
      omega
theorem clrB_len (big : Bool) (c : Nat) (hc : 1 ≤ c) (l : List Int) : (clrB big c l).length ≤ 10 * l.length + 2 := by
  unfold clrB
  split
  · simp; omega
  · have := chunksF_len big c hc l.length l
    simp; omega
theorem chunksF_step (big : Bool) (c k s : Nat) (acc data : List Int) (tot : List Int) (hs : s < data.length) (hc : 1 ≤ c) (h : acc ++ chunksF big c k (data.drop s) = tot) (hk : data.length - s ≤ k) :
    ∃ k', (acc ++ headB big ((data.drop s).take c).length ++ (data.drop s).take c) ++ chunksF big c k' (data.drop (s + c)) = tot ∧ data.length - (s + c) ≤ k' := by
  match k, hk with
  | 0, hk => omega
  | k + 1, hk =>
    refine ⟨k, ?_, by omega⟩
    rw [chunksF, if_neg (by intro e; rw [List.drop_eq_nil_iff] at e; omega), List.drop_drop] at h
    rw [← h]
    simp only [List.append_assoc]
end Dg
namespace Ses
theorem C_part {w : World} {gd od : Nat} {data : List Int} (h : Kd.C (Kd.int .u8) w (some ⟨gd, od, none⟩) data.length data) (s m : Nat) (hm : s + m ≤ data.length) : Kd.C (Kd.int .u8) w (some ⟨gd, od + s, none⟩) ((data.drop s).take m).length ((data.drop s).take m) := xC_drop h s m hm
end Ses
set_option maxHeartbeats 4000000 in
set_option maxRecDepth 100000 in
theorem putClr_short (b g : Nat) (big : Bool) (chunk : Int) (out data : List Int) (A : Option Addr) (cp : Nat) (w : World) (h : Ses.WS w b g big chunk out) (hC : Kd.C (Kd.int .u8) w A data.length data) (hab : ∀ a, A = some a → a.block ≠ b ∧ a.block ≠ g) (hd : data.length ≤ 252) (hlim : out.length + 1000 ≤ 140737488355328) :
    Calls Tryd.prog 41 #[.pointer (some ⟨b, 0, none⟩), .slice A data.length cp] w (Ses.WP (.tuple #[]) b g big chunk (out ++ ((data.length : Int) :: data)) w) := by
  have HLim := Lib.hid hlim
  have HWS := Lib.hid h
  have HC := Lib.hid hC
  have HAb := Lib.hid hab
  clear hlim h hC hab
  obtain ⟨k, hk⟩ : ∃ k, k = data.length := ⟨_, rfl⟩
  have HK := Lib.hid hk
  have HBy := Lib.hid (Ses.ws_byte b g big chunk out (k : Int) w HWS.out (by have := HLim.out; omega))
  have HWr := Lib.hid (fun (W : World) (g' : Nat) (h : Ses.WS W b g' big chunk (out ++ [(k : Int)])) (hC : Kd.C (Kd.int .u8) W A data.length data) => Ses.ws_write b g' big chunk (out ++ [(k : Int)]) data A cp W h hC (fun a e => (HAb.out a e).1) (by have := HLim.out; rw [List.length_append, List.length_singleton]; omega))
  rw [← hk] at hd
  rw [← HK.out] at HWr ⊢
  have pw : IntKind.u8.wrap (k : Int) = (k : Int) := by simp [IntKind.wrap, IntKind.bits, IntKind.signed]; omega
  have t0 : decide ((k : Int) > 252) = false := decide_eq_false (by omega)
  clear hk
  by_cases hz : k = 0
  · subst hz
    have hp0 : data = [] := List.eq_nil_of_length_eq_zero HK.out.symm
    rw [hp0]
    rw [Int.ofNat_zero] at HBy ⊢
    clear hp0
    go_enter Tryd.func41, Tryd.ntmps41
    go_wp2_with (go_at_call 59; (with_reducible refine HBy.out.mono ?_); rintro e w4 ⟨rfl, g4, hst⟩; have HSt := Lib.hid hst; clear hst)
    go_end0
    exact ⟨rfl, g4, HSt.out⟩
  · have tz : ((k : Int) == 0) = false := beq_eq_false_iff_ne.2 (by omega)
    go_enter Tryd.func41, Tryd.ntmps41
    go_wp2_with (first | (go_at_call 59; (with_reducible refine HBy.out.mono ?_); rintro e w4 ⟨rfl, g4, hst⟩; have HSt := Lib.hid hst; clear hst) | (go_at_call 58; (with_reducible refine (HWr.out _ g4 ?hws ?hC).mono ?_); (case hws => exact HSt.out.now); (case hC => (rw [HK.out]; exact Ses.C_kp2 HC.out HSt.out.kept (fun a e => (HAb.out a e).1) (fun a e => (HAb.out a e).2))); rintro e w5 ⟨rfl, g5, hst⟩; have HSu := Lib.hid hst; clear hst))
    go_end0
    have hS := HSt.out.trans HSu.out
    rw [List.append_assoc] at hS
    exact ⟨rfl, g5, hS⟩
set_option maxHeartbeats 8000000 in
set_option maxRecDepth 100000 in
theorem putClr_long (b g : Nat) (big : Bool) (c : Nat) (out data : List Int) (A : Option Addr) (cp : Nat) (w : World) (h : Ses.WS w b g big (c : Int) out) (hC : Kd.C (Kd.int .u8) w A data.length data) (hle : data.length ≤ cp) (hcp : cp ≤ 9223372036854775807) (hab : ∀ a, A = some a → a.block ≠ b ∧ a.block ≠ g) (hd : 252 < data.length) (hd2 : data.length ≤ 100000) (hc1 : 1 ≤ c) (hc2 : c ≤ 252) (hlim : out.length + 2000000 ≤ 140737488355328) :
    Calls Tryd.prog 41 #[.pointer (some ⟨b, 0, none⟩), .slice A data.length cp] w (Ses.WP (.tuple #[]) b g big (c : Int) (out ++ (254 :: (Dg.chunksF big c data.length data ++ [0]))) w) := by
  obtain ⟨gd, od, rfl, -, -⟩ := C_base hC (by omega)
  have HLim := Lib.hid hlim
  have HWS := Lib.hid h
  have HC := Lib.hid hC
  have HAb := Lib.hid (hab _ rfl)
  clear hlim h hC hab
  obtain ⟨n, hn⟩ : ∃ n, n = data.length := ⟨_, rfl⟩
  obtain ⟨tot, htot⟩ : ∃ tot, tot = Dg.chunksF big c data.length data := ⟨_, rfl⟩
  have htl : tot.length ≤ 10 * n := by rw [htot, hn]; exact Dg.chunksF_len big c hc1 _ _
  have HTot := Lib.hid htot
  rw [← htot]
  have HN := Lib.hid hn
  rw [← hn] at hd hd2 hle ⊢
  have HBy := Lib.hid (fun (W : World) (g' : Nat) (o : List Int) (x : Int) (h : Ses.WS W b g' big (c : Int) o) (hz : o.length ≤ out.length + 1500000) => Ses.ws_byte b g' big (c : Int) o x W h (by have := HLim.out; omega))
  have HWr : Hid (∀ (W : World) (g' : Nat) (o : List Int) (s m cc : Nat), Ses.WS W b g' big (c : Int) o → o.length ≤ out.length + 1500000 → s + m ≤ n → Kd.C (Kd.int .u8) W (some ⟨gd, od, none⟩) data.length data → Calls Tryd.prog 58 #[.pointer (some ⟨b, 1, none⟩), .slice (some ⟨gd, od + s, none⟩) m cc] W (Ses.WP (.tuple #[.int .i64 m, .nilIface]) b g' big (c : Int) (o ++ (data.drop s).take m) W)) := Lib.hid (fun W g' o s m cc h hz hm hC => by
    have hl : ((data.drop s).take m).length = m := by have := HN.out; rw [List.length_take, List.length_drop]; omega
    have hw := Ses.ws_write b g' big (c : Int) o ((data.drop s).take m) (some ⟨gd, od + s, none⟩) cc W h (Ses.C_part hC s m (by rw [← HN.out]; exact hm)) (fun a e => by injection e with e; subst e; exact HAb.out.1) (by have := HLim.out; rw [hl]; omega)
    rw [hl] at hw
    exact hw)
  have HPi : Hid (∀ (W : World) (g' : Nat) (o : List Int) (m : Nat), Ses.WS W b g' big (c : Int) o → o.length ≤ out.length + 1500000 → m ≤ 255 → Calls Tryd.prog 42 #[.pointer (some ⟨b, 0, none⟩), .iface 3 (.int .i64 m), .int .u8 4, .bool true, .bool true] W (Ses.WP (.tuple #[]) b g' big (c : Int) (o ++ Dg.packed m) W)) := Lib.hid (fun W g' o m h hz hm => putInt_packed_int b g' big (c : Int) o m 4 true W h (by omega) (by omega) (by omega) (by omega) (by have := HLim.out; omega))
  have HCk : Hid (∀ (W : World) (g' : Nat) (o : List Int), Ses.WStep w W b g g' big (c : Int) o → Kd.C (Kd.int .u8) W (some ⟨gd, od, none⟩) data.length data) := Lib.hid (fun W g' o hS => Ses.C_kp2 HC.out hS.kept (fun a e => by injection e with e; subst e; exact HAb.out.1) (fun a e => by injection e with e; subst e; exact HAb.out.2))
  have t0 : decide ((n : Int) > 252) = true := decide_eq_true (by omega)
  have hcn : (0 : Int) ≤ (c : Int) := by omega
  clear hn htot
  go_enter Tryd.func41, Tryd.ntmps41
  go_wp2_with (go_at_call 59; (with_reducible refine (HBy.out _ g out 254 ?hws ?hz).mono ?_); (case hws => exact HWS.out); (case hz => omega); rintro e w4 ⟨rfl, g4, hst⟩; have HSt := Lib.hid hst; clear hst)
  go_loopw [5] (fun v5 wr => ∃ (s g' k : Nat) (acc : List Int), v5 = .int .i64 s ∧ s ≤ n + c ∧ Hid (Ses.WStep w wr b g g' big (c : Int) (out ++ (254 :: acc))) ∧ Hid (acc ++ Dg.chunksF big c k (data.drop s) = tot ∧ data.length - s ≤ k)) (fun v5 _ => n - (intOf v5).toNat)
  case atStart =>
    refine ⟨0, g4, data.length, [], rfl, by omega, HSt, Lib.hid ⟨?_, by omega⟩⟩
    rw [List.drop_zero, List.nil_append]
    exact HTot.out.symm
  case round =>
    obtain ⟨s, g', k, acc, rfl, hsn, HS, HA⟩ := hrel
    by_cases hlt : s < n
    · have t1 : decide ((s : Int) < (n : Int)) = true := decide_eq_true (by omega)
      have c6 := HS.out.now.c6
      have c5 := HS.out.now.c5
      have hal : acc.length ≤ 10 * n := by
        have h := congrArg List.length HA.out.1
        rw [List.length_append] at h
        omega
      obtain ⟨k', hk1, hk2⟩ := Dg.chunksF_step big c k s acc data tot (by have := HN.out; omega) hc1 HA.out.1 HA.out.2
      have HK1 := Lib.hid hk1
      have HK2 := Lib.hid hk2
      clear hk1 hk2
      cases big
      all_goals by_cases hend : s + c > n
      · have t2 : decide ((s : Int) + (c : Int) > (n : Int)) = true := decide_eq_true (by omega)
        have tb : IntKind.u8.wrap (((n - s) : Nat) : Int) = (((n - s) : Nat) : Int) := by simp [IntKind.wrap, IntKind.bits, IntKind.signed]; omega
        go_wp2_with (first | (go_at_call 59; (with_reducible refine (HBy.out _ g' (out ++ 254 :: acc) _ ?hws ?hz).mono ?_); (case hws => exact HS.out.now); (case hz => rw [List.length_append, List.length_cons]; omega); rintro e w5 ⟨rfl, g5, hst⟩; have HSt5 := Lib.hid (HS.out.trans hst); clear hst) | (go_at_call 58; (with_reducible refine (HWr.out _ g5 (out ++ 254 :: acc ++ [(((n - s) : Nat) : Int)]) s (n - s) (cp - s) ?hws ?hz ?hm ?hC).mono ?_); (case hws => exact HSt5.out.now); (case hz => rw [List.length_append, List.length_append, List.length_cons, List.length_singleton]; omega); (case hm => omega); (case hC => exact HCk.out _ _ _ HSt5.out); rintro e w6 ⟨rfl, g6, hst⟩; have HSt6 := Lib.hid (HSt5.out.trans hst); clear hst; have c6b := HSt6.out.now.c6; clear c6))
        go_roundw
        case measure => simp [intOf]; omega
        case rel =>
          refine ⟨s + c, g6, k', acc ++ Dg.headB false ((data.drop s).take c).length ++ (data.drop s).take c, by go_num, by omega, ?_, Lib.hid ⟨HK1.out, HK2.out⟩⟩
          have hR : (data.drop s).take c = (data.drop s).take (n - s) := by rw [List.take_of_length_le (by have := HN.out; rw [List.length_drop]; omega), List.take_of_length_le (by have := HN.out; rw [List.length_drop]; omega)]
          have hl : ((data.drop s).take c).length = (n - s) := by have := HN.out; rw [List.length_take, List.length_drop]; omega
          rw [hl, hR]
          have hS := HSt6.out
          simp only [List.append_assoc, List.cons_append] at hS ⊢
          exact Lib.hid hS
      · have t2 : decide ((s : Int) + (c : Int) > (n : Int)) = false := decide_eq_false (by omega)
        have tb : IntKind.u8.wrap ((c : Nat) : Int) = ((c : Nat) : Int) := by simp [IntKind.wrap, IntKind.bits, IntKind.signed]; omega
        go_wp2_with (first | (go_at_call 59; (with_reducible refine (HBy.out _ g' (out ++ 254 :: acc) _ ?hws ?hz).mono ?_); (case hws => exact HS.out.now); (case hz => rw [List.length_append, List.length_cons]; omega); rintro e w5 ⟨rfl, g5, hst⟩; have HSt5 := Lib.hid (HS.out.trans hst); clear hst) | (go_at_call 58; (with_reducible refine (HWr.out _ g5 (out ++ 254 :: acc ++ [((c : Nat) : Int)]) s c (cp - s) ?hws ?hz ?hm ?hC).mono ?_); (case hws => exact HSt5.out.now); (case hz => rw [List.length_append, List.length_append, List.length_cons, List.length_singleton]; omega); (case hm => omega); (case hC => exact HCk.out _ _ _ HSt5.out); rintro e w6 ⟨rfl, g6, hst⟩; have HSt6 := Lib.hid (HSt5.out.trans hst); clear hst; have c6b := HSt6.out.now.c6; clear c6))
        go_roundw
        case measure => simp [intOf]; omega
        case rel =>
          refine ⟨s + c, g6, k', acc ++ Dg.headB false ((data.drop s).take c).length ++ (data.drop s).take c, by go_num, by omega, ?_, Lib.hid ⟨HK1.out, HK2.out⟩⟩
          have hR : (data.drop s).take c = (data.drop s).take c := rfl
          have hl : ((data.drop s).take c).length = c := by have := HN.out; rw [List.length_take, List.length_drop]; omega
          rw [hl, hR]
          have hS := HSt6.out
          simp only [List.append_assoc, List.cons_append] at hS ⊢
          exact Lib.hid hS
      · have t2 : decide ((s : Int) + (c : Int) > (n : Int)) = true := decide_eq_true (by omega)
        have tb : IntKind.u8.wrap (((n - s) : Nat) : Int) = (((n - s) : Nat) : Int) := by simp [IntKind.wrap, IntKind.bits, IntKind.signed]; omega
        go_wp2_with (first | (go_at_call 42; (with_reducible refine (HPi.out _ g' (out ++ 254 :: acc) (n - s) ?hws ?hz ?hm).mono ?_); (case hws => exact HS.out.now); (case hz => rw [List.length_append, List.length_cons]; omega); (case hm => omega); rintro e w5 ⟨rfl, g5, hst⟩; have HSt5 := Lib.hid (HS.out.trans hst); clear hst) | (go_at_call 58; (with_reducible refine (HWr.out _ g5 (out ++ 254 :: acc ++ Dg.packed (((n - s) : Nat) : Int)) s (n - s) (cp - s) ?hws ?hz ?hm ?hC).mono ?_); (case hws => exact HSt5.out.now); (case hz => rw [List.length_append, List.length_append, List.length_cons]; have h9 := Dg.headB_len true (n - s); (have e9 : Dg.headB true (n - s) = Dg.packed (((n - s) : Nat) : Int) := rfl); rw [e9] at h9; omega); (case hm => omega); (case hC => exact HCk.out _ _ _ HSt5.out); rintro e w6 ⟨rfl, g6, hst⟩; have HSt6 := Lib.hid (HSt5.out.trans hst); clear hst; have c6b := HSt6.out.now.c6; clear c6))
        go_roundw
        case measure => simp [intOf]; omega
        case rel =>
          refine ⟨s + c, g6, k', acc ++ Dg.headB true ((data.drop s).take c).length ++ (data.drop s).take c, by go_num, by omega, ?_, Lib.hid ⟨HK1.out, HK2.out⟩⟩
          have hR : (data.drop s).take c = (data.drop s).take (n - s) := by rw [List.take_of_length_le (by have := HN.out; rw [List.length_drop]; omega), List.take_of_length_le (by have := HN.out; rw [List.length_drop]; omega)]
          have hl : ((data.drop s).take c).length = (n - s) := by have := HN.out; rw [List.length_take, List.length_drop]; omega
          rw [hl, hR]
          have hS := HSt6.out
          simp only [List.append_assoc, List.cons_append] at hS ⊢
          exact Lib.hid hS
      · have t2 : decide ((s : Int) + (c : Int) > (n : Int)) = false := decide_eq_false (by omega)
        have tb : IntKind.u8.wrap ((c : Nat) : Int) = ((c : Nat) : Int) := by simp [IntKind.wrap, IntKind.bits, IntKind.signed]; omega
        go_wp2_with (first | (go_at_call 42; (with_reducible refine (HPi.out _ g' (out ++ 254 :: acc) c ?hws ?hz ?hm).mono ?_); (case hws => exact HS.out.now); (case hz => rw [List.length_append, List.length_cons]; omega); (case hm => omega); rintro e w5 ⟨rfl, g5, hst⟩; have HSt5 := Lib.hid (HS.out.trans hst); clear hst) | (go_at_call 58; (with_reducible refine (HWr.out _ g5 (out ++ 254 :: acc ++ Dg.packed ((c : Nat) : Int)) s c (cp - s) ?hws ?hz ?hm ?hC).mono ?_); (case hws => exact HSt5.out.now); (case hz => rw [List.length_append, List.length_append, List.length_cons]; have h9 := Dg.headB_len true c; (have e9 : Dg.headB true c = Dg.packed ((c : Nat) : Int) := rfl); rw [e9] at h9; omega); (case hm => omega); (case hC => exact HCk.out _ _ _ HSt5.out); rintro e w6 ⟨rfl, g6, hst⟩; have HSt6 := Lib.hid (HSt5.out.trans hst); clear hst; have c6b := HSt6.out.now.c6; clear c6))
        go_roundw
        case measure => simp [intOf]; omega
        case rel =>
          refine ⟨s + c, g6, k', acc ++ Dg.headB true ((data.drop s).take c).length ++ (data.drop s).take c, by go_num, by omega, ?_, Lib.hid ⟨HK1.out, HK2.out⟩⟩
          have hR : (data.drop s).take c = (data.drop s).take c := rfl
          have hl : ((data.drop s).take c).length = c := by have := HN.out; rw [List.length_take, List.length_drop]; omega
          rw [hl, hR]
          have hS := HSt6.out
          simp only [List.append_assoc, List.cons_append] at hS ⊢
          exact Lib.hid hS
    · have t1 : decide ((s : Int) < (n : Int)) = false := decide_eq_false (by omega)
      have hacc : acc = tot := by
        have := HA.out.1
        rw [List.drop_eq_nil_of_le (by have := HN.out; omega), Dg.chunksF_nil, List.append_nil] at this
        exact this
      subst hacc
      go_wp2_with (go_at_call 59; (with_reducible refine (HBy.out _ g' (out ++ 254 :: acc) 0 ?hws ?hz).mono ?_); (case hws => exact HS.out.now); (case hz => rw [List.length_append, List.length_cons]; omega); rintro e w5 ⟨rfl, g5, hst⟩; have HSu := Lib.hid hst; clear hst)
      go_end0
      have hS := HS.out.trans HSu.out
      rw [List.append_assoc, List.cons_append] at hS
      exact ⟨rfl, g5, hS⟩
end Go.Proofs.YtdnahdddkagfhaaDoor.X
