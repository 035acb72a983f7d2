/- The law FnUrlPlain: letters, digits, and the signs - _ . ~ stand as they are in all parts of an address. -/
import Derived.Test.YtipkpgmgjdfgoaaDoorUo
import Derived.Test.YtipkpgmgjdfgoaaDoorUq
namespace Go.Proofs.YtipkpgmgjdfgoaaDoor.X
open Go.RowKit Go.Proofs.YtipkpgmgjdfgoaaDoorW.PrintWords Go.Proofs.YtipkpgmgjdfgoaaDoorW.PrintMore
attribute [local go_sem] setCell_drewN alloc_drewN
set_option linter.unusedVariables false
set_option linter.unusedSimpArgs false
set_option maxHeartbeats 4000000 in
set_option maxRecDepth 100000 in
theorem Url_one (server : ByteArray) (port : Int) (service user password u p t h s key val out : ByteArray) (ps : List ByteArray) (srv : Bool) (g c : Nat) (w : World) (hp : Url.parts server port service user password u p t h s) (hh : (Url.head u p h s).size ≤ 100000)
    (ho : Url.Opts key val ps srv) (hout : ∃ k, ZU.goora_zzTrimRight.f k (Url.retN (Url.head u p h s ++ (⟨#[63]⟩ : ByteArray)) key srv ps) ⟨#[38]⟩ = some out)
    (hg : g < w.heap.size) (h0 : w.cell? ⟨g, 0, none⟩ = some (.string key)) (h1 : w.cell? ⟨g, 1, none⟩ = some (.string val)) (htab : TabA w) :
    Calls Tryd.prog 28 #[.string server, .int .i64 port, .string service, .string user, .string password, .slice (some ⟨g, 0, none⟩) 1 c] w fun e w' => e = .returned (.string out) ∧ Below w.heap.size w w' := by
  have HT := Lib.hid (tabA_all htab)
  have HC := Lib.hid (options_one Unit g c key val w hg h0 h1 (by have := ho.hk; omega) (by have := ho.hv; omega))
  have HBd := Lib.hid (fun W b (hown : W.ownsMap Tryd.prog 9 (plainElem (H := Unit) Tryd.prog 9) b 1 (oneD Unit key val)) hT => BuildUrl_one Unit server port service user password u p t h s key val out ps srv b W hp hh ho hout hown hT)
  clear hp htab ho hout h0 h1 hg hh
  go_enter Tryd.func28, Tryd.ntmps28
  go_wp2_with (first | (go_at_call 51; (with_reducible refine HC.out.mono ?_); rintro e w1 ⟨rfl, hown, hb⟩; have HO := Lib.hid hown; have HB := Lib.hid hb; clear hown hb) | (go_at_call 50; (with_reducible refine (HBd.out _ _ HO.out (HT.out _ HB.out)).mono ?_); rintro e w2 ⟨rfl, hb2⟩))
  go_ret
  exact ⟨rfl, bl_trans HB.out hb2⟩
namespace Url
def plainC : ByteArray := ⟨#[97, 98, 99, 100, 101, 102, 103, 104, 105, 106, 107, 108, 109, 110, 111, 112, 113, 114, 115, 116, 117, 118, 119, 120, 121, 122, 65, 66, 67, 68, 69, 70, 71, 72, 73, 74, 75, 76, 77, 78, 79, 80, 81, 82, 83, 84, 85, 86, 87, 88, 89, 90, 48, 49, 50, 51, 52, 53, 54, 55, 56, 57, 45, 95, 46, 126]⟩
set_option maxRecDepth 100000 in
theorem plain_step : ∀ k : Fin 66, (plainC.extract k.val (k.val + 1)).data.toList = [plainC.data.toList.getD k.val 0] ∧ plainC.data.toList.getD k.val 0 ∈ plainC.data.toList := by decide +kernel
set_option maxRecDepth 100000 in
theorem plain_all : ∀ b ∈ plainC.data.toList, esc (b.toNat : Int) 2 = false ∧ esc (b.toNat : Int) 32 = false ∧ b ≠ 44 ∧ b ≠ 38 ∧ b.toNat < 128 ∧ Lib.isSp b = false := by decide +kernel
def PlainS (s : ByteArray) : Prop := ∀ b ∈ s.data.toList, b ∈ plainC.data.toList
theorem PlainS.snoc {s : ByteArray} {i : Nat} (h : PlainS s ∧ s.size = i) (x : Int) (h0 : 0 ≤ x) (h1 : x < 66) : PlainS (s ++ plainC.extract x.toNat (x + 1).toNat) ∧ (s ++ plainC.extract x.toNat (x + 1).toNat).size = i + 1 := by
  obtain ⟨p1, p2⟩ := plain_step ⟨x.toNat, by omega⟩
  simp only at p1 p2
  rw [show (x + 1).toNat = x.toNat + 1 by omega]
  refine ⟨fun b hb => ?_, ?_⟩
  · rw [ByteArray.data_append, Array.toList_append, List.mem_append, p1] at hb
    rcases hb with hb | hb
    · exact h.1 b hb
    · rw [List.mem_singleton] at hb; rw [hb]; exact p2
  · rw [ByteArray.size_append, h.2]
    have h4 : (plainC.extract x.toNat (x.toNat + 1)).size = 1 := by rw [← data_length, p1]; rfl
    rw [h4]
theorem plain_esc (s : ByteArray) (h : PlainS s) (m : Int) (hm : m = 2 ∨ m = 32) : escL m (bytesOf s) = bytesOf s := by
  have he : ∀ c ∈ bytesOf s, esc c m = false := by
    intro c hc
    unfold bytesOf at hc
    obtain ⟨b, hb, rfl⟩ := List.mem_map.1 hc
    have := plain_all b (h b hb)
    rcases hm with rfl | rfl
    · exact this.1
    · exact this.2.1
  refine escL_same m _ ?_ ?_
  · rw [List.countP_eq_zero]; intro c hc; unfold sp; rw [he c hc]; simp
  · rw [List.countP_eq_zero]; intro c hc; unfold hx; rw [he c hc]; simp
theorem plain_path (s : ByteArray) (h : PlainS s) (hz : s.size ≤ 200) : url_PathEscape.f s = some s := by
  rw [path_f s (by omega), plain_esc s h 2 (.inl rfl), strOfNums_bytesOf]
theorem drop_none {p : UInt8 → Bool} : ∀ l : List UInt8, (∀ b ∈ l, p b = false) → l.dropWhile p = l
  | [], _ => rfl
  | a :: l, h => by rw [List.dropWhile_cons, h a (by simp)]; rfl
theorem plain_trim (s : ByteArray) (h : PlainS s) : trimB s = s := by
  have h1 : ∀ b ∈ s.data.toList, Lib.isSp b = false := fun b hb => (plain_all b (h b hb)).2.2.2.2.2
  unfold trimB Lib.trimSpace
  rw [drop_none _ h1, drop_none _ (fun b hb => h1 b (List.mem_reverse.1 hb)), List.reverse_reverse]
theorem plain_ascii (s : ByteArray) (h : PlainS s) : Ascii s := fun b hb => (plain_all b (h b hb)).2.2.2.2.1
theorem plain_opts (s : ByteArray) (h : PlainS s) (hz : s.size ≤ 200) : Opts ⟨#[120]⟩ s [s] false := by
  refine ⟨by decide, by omega, by unfold Ascii; decide, plain_ascii s h, ?_, by simp, by simpa using by omega, by simpa using plain_ascii s h, by decide⟩
  rw [plain_trim s h]
  obtain ⟨k, hk⟩ := zzSplit_f s (by omega)
  refine ⟨k, ?_⟩
  rw [hk, splitL_one _ (fun b hb => (plain_all b (h b hb)).2.2.1)]
  simp [mkB_data]
def want (s : ByteArray) : ByteArray := (((((((⟨#[111, 114, 97, 99, 108, 101, 58, 47, 47]⟩ : ByteArray) ++ s) ++ (⟨#[58]⟩ : ByteArray)) ++ s) ++ (⟨#[64, 104, 58, 49, 47]⟩ : ByteArray)) ++ s) ++ (⟨#[63, 120, 61]⟩ : ByteArray)) ++ s
theorem plain_out (s : ByteArray) (h : PlainS s) (hz : s.size ≤ 200) (h0 : 0 < s.size) : ∃ k, ZU.goora_zzTrimRight.f k (retN (head s s ⟨#[104, 58, 49]⟩ s ++ (⟨#[63]⟩ : ByteArray)) ⟨#[120]⟩ false [s]) ⟨#[38]⟩ = some (want s) := by
  have e1 : partE false s = s := by
    show strOfNums (escL 32 (bytesOf (trimB s))) = s
    rw [plain_trim s h, plain_esc s h 32 (.inr rfl), strOfNums_bytesOf]
  have hl := data_length s
  have hlen : (want s).data.toList.length = 4 * s.size + 18 := by
    rw [data_length]
    unfold want
    simp only [ByteArray.size_append]
    have a1 : (⟨#[111, 114, 97, 99, 108, 101, 58, 47, 47]⟩ : ByteArray).size = 9 := rfl
    have a2 : (⟨#[58]⟩ : ByteArray).size = 1 := rfl
    have a3 : (⟨#[64, 104, 58, 49, 47]⟩ : ByteArray).size = 5 := rfl
    have a4 : (⟨#[63, 120, 61]⟩ : ByteArray).size = 3 := rfl
    omega
  have e2 : retN (head s s ⟨#[104, 58, 49]⟩ s ++ (⟨#[63]⟩ : ByteArray)) ⟨#[120]⟩ false [s] = mkB ((want s).data.toList ++ [38]) := by
    show (head s s ⟨#[104, 58, 49]⟩ s ++ (⟨#[63]⟩ : ByteArray)) ++ piece ⟨#[120]⟩ false s = _
    unfold piece
    rw [e1]
    apply ByteArray.ext
    apply Array.ext'
    simp [head, want, mkB]
  rw [e2]
  obtain ⟨k, hk⟩ := zzTrim_one (want s).data.toList (by omega) (by omega) (by
    have hw : (want s).data.toList = ((((((((⟨#[111, 114, 97, 99, 108, 101, 58, 47, 47]⟩ : ByteArray) ++ s) ++ (⟨#[58]⟩ : ByteArray)) ++ s) ++ (⟨#[64, 104, 58, 49, 47]⟩ : ByteArray)) ++ s) ++ (⟨#[63, 120, 61]⟩ : ByteArray))).data.toList ++ s.data.toList := by
      unfold want
      rw [ByteArray.data_append, Array.toList_append]
    have hb : ∀ (X Y : List UInt8) (hY : 0 < Y.length) (hp : (X ++ Y).length - 1 < (X ++ Y).length), (X ++ Y)[(X ++ Y).length - 1] ∈ Y := by
      intro X Y hY hp
      rw [List.getElem_append_right (by rw [List.length_append]; omega)]
      exact List.getElem_mem _
    have : ∀ (Z : List UInt8) (hZ : Z = (want s).data.toList) (hp : Z.length - 1 < Z.length), Z[Z.length - 1] ∈ s.data.toList := by
      intro Z hZ hp
      rw [hw] at hZ
      subst hZ
      exact hb _ _ (by omega) hp
    exact (plain_all _ (h _ (this _ rfl (by omega)))).2.2.2.1)
  exact ⟨k, by rw [hk, mkB_data]⟩
end Url
def laws_FnUrlPlain.f (l : List Int) : Option Bool := if Byt l ∧ l.length ≤ 140737488351232 then some true else none
set_option maxHeartbeats 8000000 in
set_option maxRecDepth 100000 in
theorem laws_FnUrlPlain.calls (A0 : Option Addr) (c0 : Nat) (l : List Int) (r : Bool) (w : World) (hr0 : Kd.C (Kd.int .u8) w A0 l.length l) (hc0 : l.length ≤ c0) (h : laws_FnUrlPlain.f l = some r) (htab : TabA w) :
    Calls Tryd.prog 9 #[.slice A0 l.length c0] w fun e w' => e = .returned (.bool r) ∧ Below w.heap.size w w' := by
  unfold laws_FnUrlPlain.f at h
  split at h
  · rename_i hsz
    obtain ⟨hby, z0⟩ := hsz
    obtain rfl := Option.some.inj h
    clear h
    have HT := Lib.hid (tabA_all htab)
    have HTu := Lib.hid (fun W hb => (tabA_all htab W hb).1)
    have HY := Lib.hid hby
    have HR := Lib.hid hr0
    obtain ⟨n, hn⟩ : ∃ n, n = l.length := ⟨_, rfl⟩
    rw [← hn] at z0 hc0 ⊢
    have HN := Lib.hid hn.symm
    clear htab hby hr0 hn
    by_cases g0 : (n : Int) > 2147483647
    · have t0 : decide ((n : Int) > 2147483647) = true := decide_eq_true g0
      clear g0
      go_enter Tryd.func9, Tryd.ntmps9
      go_wp2
      go_ret
      exact ⟨rfl, Below.refl _ _⟩
    have t0 : decide ((n : Int) > 2147483647) = false := decide_eq_false g0
    by_cases g1 : (n : Int) > 200
    · have t1 : decide ((n : Int) > 200) = true := decide_eq_true g1
      clear g0 g1
      go_enter Tryd.func9, Tryd.ntmps9
      go_wp2_with (go_at_call 27; (with_reducible refine (urlAwake_calls _ (HTu.out _ (Below.refl _ _))).mono ?_); rintro e w3 ⟨rfl, hb⟩)
      go_ret
      exact ⟨rfl, hb⟩
    have t1 : decide ((n : Int) > 200) = false := decide_eq_false g1
    have hn200 : n ≤ 200 := by omega
    clear g0 g1
    go_enter Tryd.func9, Tryd.ntmps9
    go_wp2
    go_loop [3, 16] (fun v3 v16 => ∃ (i : Nat) (st : ByteArray), i ≤ n ∧ v16 = .int .i64 i ∧ v3 = .string st ∧ Hid (Url.PlainS st ∧ st.size = i)) (fun _ v16 => n - (intOf v16).toNat)
    case atStart => exact ⟨0, _, Nat.zero_le _, rfl, rfl, Lib.hid ⟨fun b hb => by simp at hb, rfl⟩⟩
    case round =>
      obtain ⟨i, st, hi, rfl, rfl, HP⟩ := hrel
      have hst2 : st.size ≤ 200 := by rw [HP.out.2]; omega
      by_cases hlt : i < n
      · have hz : 0 < n := by omega
        obtain ⟨gg, oo, hA, hgl, hcell⟩ := C_base HR.out (by rw [HN.out]; exact hz)
        subst hA
        have x0 := hcell i (by rw [HN.out]; exact hlt)
        have hx := HY.out.get i
        clear hcell
        generalize l.getD i 0 = x at *
        have HP2 := Lib.hid (Url.PlainS.snoc HP.out (x % 66) (by omega) (by omega))
        go_wp2
        go_round
        case rel => exact ⟨i + 1, _, by omega, by go_num, rfl, HP2⟩
        case measure => simp [intOf]; omega
      · obtain rfl : i = n := by omega
        by_cases h0 : i = 0
        · have hse : st = ⟨#[]⟩ := by
            apply ByteArray.ext
            apply Array.ext'
            apply List.eq_nil_of_length_eq_zero
            rw [data_length, HP.out.2, h0]
          subst hse
          clear h0
          go_wp2_with (go_at_call 27; (with_reducible refine (urlAwake_calls _ (HTu.out _ (Below.refl _ _))).mono ?_); rintro e w3 ⟨rfl, hb⟩)
          go_ret
          exact ⟨rfl, hb⟩
        · have hpos : 0 < st.size := by rw [HP.out.2]; omega
          have hl0 : st.toList ≠ [] := by
            intro e
            rw [Go.ByteArray.toList_eq] at e
            have := data_length st
            rw [e] at this
            simp at this
            omega
          have q1 : (st.toList == ([] : List UInt8)) = false := beq_eq_false_iff_ne.2 hl0
          have q2 : st.toList.isEmpty = false := by cases hq : st.toList with | nil => exact absurd hq hl0 | cons a b => rfl
          have hpl := HP.out.1
          have hpth := Url.plain_path st hpl hst2
          have hB1 : Below w.heap.size w (w.alloc (.cells #[.string (⟨#[120]⟩ : ByteArray), .string st] 50)) := (Below.refl _ _).alloc (Nat.le_refl _) _
          have HU := Lib.hid (Url_one ⟨#[104]⟩ 1 st st st st st ⟨#[49]⟩ ⟨#[104, 58, 49]⟩ st ⟨#[120]⟩ st (Url.want st) [st] false w.heap.size 1 (w.alloc (.cells #[.string (⟨#[120]⟩ : ByteArray), .string st] 50))
            ⟨hpth, hpth, by decide +kernel, by decide +kernel, hpth, by omega, by omega, by decide, by omega⟩ (by
              unfold Url.head
              simp only [ByteArray.size_append]
              have a1 : (⟨#[111, 114, 97, 99, 108, 101, 58, 47, 47]⟩ : ByteArray).size = 9 := rfl
              have a2 : (⟨#[58]⟩ : ByteArray).size = 1 := rfl
              have a3 : (⟨#[64]⟩ : ByteArray).size = 1 := rfl
              have a4 : (⟨#[104, 58, 49]⟩ : ByteArray).size = 3 := rfl
              have a5 : (⟨#[47]⟩ : ByteArray).size = 1 := rfl
              omega) (Url.plain_opts st hpl hst2) (Url.plain_out st hpl hst2 hpos) (by rw [World.size_alloc]; omega) (by rw [xb_cell (xb_new _ _)]; rfl) (by rw [xb_cell (xb_new _ _)]; rfl) (HT.out _ hB1))
          have HB1 := Lib.hid hB1
          clear hB1 hpl hpth hl0 h0
          unfold Url.want at HU
          go_wp2_with (first | (go_at_call 28; (with_reducible refine HU.out.mono ?_); rintro e w3 ⟨rfl, hb⟩; have HB3 := Lib.hid (HB1.out.trans (hb.mono HB1.out.size)); clear hb) | (go_at_call 27; (with_reducible refine (urlAwake_calls _ (HTu.out _ HB3.out)).mono ?_); rintro e w4 ⟨rfl, hb⟩; have HB4 := Lib.hid (HB3.out.trans (hb.mono HB3.out.size)); clear hb))
          go_ret
          exact ⟨rfl, HB4.out⟩
  · cases h
end Go.Proofs.YtipkpgmgjdfgoaaDoor.X
