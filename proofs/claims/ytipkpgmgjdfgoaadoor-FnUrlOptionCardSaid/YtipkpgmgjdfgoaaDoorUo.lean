/- impl.options of one option; strings.TrimSpace; goora.BuildUrl with one option. -/
import Derived.Test.YtipkpgmgjdfgoaaDoorUc
import Derived.Test.YtipkpgmgjdfgoaaDoorZU
import Derived.Maps.RangeWalk
import Derived.Sort.MapsRangeIn
import Derived.StringKeys
import Derived.WideAt
namespace Go.Proofs.YtipkpgmgjdfgoaaDoor.X
open Go.RowKit Go.Maps Go.ChangeMaps Go.WideAt Go.Proofs.YtipkpgmgjdfgoaaDoorW.PrintWords Go.Proofs.YtipkpgmgjdfgoaaDoorW.PrintMore
attribute [local go_sem] setCell_drewN alloc_drewN
set_option linter.unusedVariables false
set_option linter.unusedSimpArgs false
theorem law9 : Keyed Tryd.prog 9 := string_keyed Tryd.underlying9
/-- The tables that an address with options asks for. -/
def TabA (w : World) : Prop := TabU w ∧ Lib.TabIs Tryd.prog w "strings.asciiSpace" .u8 Lib.asciiSpaceTab
theorem tabA_all {w : World} (h : TabA w) : ∀ W, Below w.heap.size w W → TabA W := fun W hb => ⟨tabU_all h.1 W hb, (Lib.tabBelow_of_tabIs h.2) W hb⟩
/-- The datum of one option. -/
def oneD (H : Type) (name val : ByteArray) : DataW H := .map [(.string name.data.toList, .lit (.string val.data.toList))]
theorem key_str (s : ByteArray) (h : s.size ≤ maxLen) : keyOf Tryd.prog 9 (.string s) = some (.string s.data.toList) := Go.WideMaps.keyOf_string_mk Tryd.underlying9 h
set_option maxHeartbeats 4000000 in
set_option maxRecDepth 100000 in
theorem options_one (H : Type) (g c : Nat) (name val : ByteArray) (w : World) (hg : g < w.heap.size) (h0 : w.cell? ⟨g, 0, none⟩ = some (.string name)) (h1 : w.cell? ⟨g, 1, none⟩ = some (.string val)) (hn : name.size ≤ 1099511627776) (hv : val.size ≤ 1099511627776) :
    Calls Tryd.prog 51 #[.slice (some ⟨g, 0, none⟩) 1 c] w fun e w' => e = .returned (.map (some w.heap.size)) ∧ w'.ownsMap Tryd.prog 9 (plainElem (H := H) Tryd.prog 9) w.heap.size 1 (oneD H name val) ∧ Below w.heap.size w w' := by
  have hmm := @run_makeMap Tryd.prog
  have hK := Lib.hid (key_str name (by unfold maxLen; omega))
  have hV := Lib.hid (plainElem_string (H := H) (P := Tryd.prog) Tryd.underlying9 (s := val) (by unfold maxLen; omega))
  have HG := Lib.hid hg
  clear hg
  go_enter Tryd.func51, Tryd.ntmps51
  go_wp2
  clear hmm
  go_loopw [12] (fun v12 wr => ∃ i : Nat, i ≤ 1 ∧ v12 = .int .i64 i ∧ Hid (Below w.heap.size w wr) ∧ Hid (i = 0 → wr.ownsMap Tryd.prog 9 (plainElem (H := H) Tryd.prog 9) w.heap.size 0 (.map [])) ∧ Hid (i = 1 → wr.ownsMap Tryd.prog 9 (plainElem (H := H) Tryd.prog 9) w.heap.size 1 (oneD H name val))) (fun v12 _ => 1 - (intOf v12).toNat)
  case atStart => exact ⟨0, by omega, rfl, Lib.hid ((Below.refl _ _).alloc (Nat.le_refl _) _), Lib.hid (fun _ => World.ownsMap_made _ _ _ _), Lib.hid (fun e => absurd e (by omega))⟩
  case round =>
    obtain ⟨i, hi, rfl, HB, HO0, HO1⟩ := hrel
    by_cases hlt : i = 0
    · have hown := HO0.out hlt
      subst hlt
      have x0 := HB.out.cell (p := ⟨g, 0, none⟩) HG.out
      have x1 := HB.out.cell (p := ⟨g, 1, none⟩) HG.out
      rw [h0] at x0
      rw [h1] at x1
      have HO := Lib.hid hown
      have hz := HB.out.size
      clear hown
      go_wp2_with (at_mapUpdate; refine wpList_mapUpdate_own _ rfl _ _ _ 79 rfl 9 9 law9 Tryd.underlying79 (plainElem (H := H) Tryd.prog 9) w.heap.size 0 (.map []) rfl (HO.out.alloc _) (by unfold maxLen; omega) _ _ _ rfl rfl hK.out _ [] hV.out ?_; intro w3 hown3 hgrow3; skip)
      go_roundw
      case rel => exact ⟨1, by omega, rfl, Lib.hid (grown_below (HB.out.alloc hz _) hgrow3 (by rw [World.size_alloc]; omega) (Nat.le_refl _)), Lib.hid (fun e => absurd e (by omega)), Lib.hid (fun _ => hown3)⟩
      case measure => simp [intOf]
    · obtain rfl : i = 1 := by omega
      have HO := Lib.hid (HO1.out rfl)
      clear HO0 HO1
      go_wp2
      go_ret
      exact ⟨rfl, HO.out, HB.out⟩
namespace Url
def Ascii (s : ByteArray) : Prop := ∀ x ∈ s.data.toList, x.toNat < 128
def trimB (s : ByteArray) : ByteArray := ⟨(Lib.trimSpace s.data.toList).toArray⟩
theorem drop_le {α : Type} (p : α → Bool) : ∀ l : List α, (l.dropWhile p).length ≤ l.length
  | [] => Nat.le_refl _
  | a :: l => by rw [List.dropWhile_cons]; split; exact Nat.le_succ_of_le (drop_le p l); exact Nat.le_refl _
theorem trim_len (l : List UInt8) : (Lib.trimSpace l).length ≤ l.length := by
  unfold Lib.trimSpace
  rw [List.length_reverse]
  refine Nat.le_trans (drop_le _ _) ?_
  rw [List.length_reverse]
  exact drop_le _ _
theorem trim_size (s : ByteArray) : (trimB s).size ≤ s.size := by
  have := trim_len s.data.toList
  rw [data_length] at this
  show (Lib.trimSpace s.data.toList).toArray.size ≤ _
  simpa using this
def partE (srv : Bool) (p : ByteArray) : ByteArray := if srv then trimB p else strOfNums (escL 32 (bytesOf (trimB p)))
def piece (key : ByteArray) (srv : Bool) (p : ByteArray) : ByteArray := ((key ++ (⟨#[61]⟩ : ByteArray)) ++ partE srv p) ++ (⟨#[38]⟩ : ByteArray)
def retN (ret0 key : ByteArray) (srv : Bool) (ps : List ByteArray) : ByteArray := ps.foldl (fun r p => r ++ piece key srv p) ret0
theorem retN_snoc (ret0 key : ByteArray) (srv : Bool) (ps : List ByteArray) (i : Nat) (h : i < ps.length) : retN ret0 key srv (ps.take (i + 1)) = retN ret0 key srv (ps.take i) ++ piece key srv (ps.getD i ByteArray.empty) := by
  rw [List.take_succ_eq_append_getElem h, List.getD_eq_getElem?_getD, List.getElem?_eq_getElem h]
  unfold retN
  rw [List.foldl_append]
  rfl
theorem partE_size (srv : Bool) (p : ByteArray) (h : p.size ≤ 400) : (partE srv p).size ≤ 1200 := by
  have h1 := trim_size p
  unfold partE
  split
  · omega
  · have := esc_size 32 (bytesOf (trimB p))
    rw [bytesOf_length] at this
    rw [size_str]
    omega
theorem piece_size (key : ByteArray) (srv : Bool) (p : ByteArray) (hk : key.size ≤ 400) (h : p.size ≤ 400) : (piece key srv p).size ≤ 1602 := by
  have := partE_size srv p h
  unfold piece
  simp only [ByteArray.size_append]
  have e1 : (⟨#[61]⟩ : ByteArray).size = 1 := rfl
  have e2 : (⟨#[38]⟩ : ByteArray).size = 1 := rfl
  omega
theorem retN_size (ret0 key : ByteArray) (srv : Bool) (hk : key.size ≤ 400) : ∀ ps : List ByteArray, (∀ p ∈ ps, p.size ≤ 400) → (retN ret0 key srv ps).size ≤ ret0.size + 1602 * ps.length := by
  intro ps
  induction ps generalizing ret0 with
  | nil => intro _; simp [retN]
  | cons p ps ih =>
    intro h
    have h1 := ih (ret0 ++ piece key srv p) (fun q hq => h q (by simp [hq]))
    have h2 := piece_size key srv p hk (h p (by simp))
    have e : retN ret0 key srv (p :: ps) = retN (ret0 ++ piece key srv p) key srv ps := rfl
    rw [e, List.length_cons]
    rw [ByteArray.size_append] at h1
    omega
theorem query_f (a : ByteArray) (h : a.size ≤ 1099511627776) : url_QueryEscape.f a = some (strOfNums (escL 32 (bytesOf a))) := by
  unfold url_QueryEscape.f url_escape.f
  rw [if_pos ⟨h, .inr rfl⟩]
/-- What is known of an option. -/
structure Opts (key val : ByteArray) (ps : List ByteArray) (srv : Bool) : Prop where
  hk : key.size ≤ 400
  hv : val.size ≤ 400
  hka : Ascii key
  hva : Ascii val
  split : ∃ k, ZU.goora_zzSplit.f k (trimB val) ⟨#[44]⟩ = some ps
  hps : ps.length ≤ 500
  hpz : ∀ p ∈ ps, p.size ≤ 400
  hpa : ∀ p ∈ ps, Ascii p
  hsrv : srv = decide (Lib.toUpperA key.data.toList = [83, 69, 82, 86, 69, 82])
theorem next_none {H : Type} {w : World} {b r : Nat} {D : DataW H} {left : Lit → Bool} (h : w.ranges Tryd.prog 9 (plainElem Tryd.prog 9) b r 1 D left 0) : (Instr.next (.pointer (some ⟨r, 0, none⟩)) false 0).run Tryd.prog w = .ok (.tuple #[.bool false]) w := by
  rcases h.next law9 0 with ⟨_, _, hrun⟩ | ⟨_, _, _, _, _, cnt', _, _, _, _, _, _, hlt, _⟩
  · exact hrun
  · omega
set_option maxRecDepth 100000 in
theorem next_one {H : Type} {w : World} {b r : Nat} {name val : ByteArray} (hn : name.size ≤ maxLen) (h : w.ranges Tryd.prog 9 (plainElem (H := H) Tryd.prog 9) b r 1 (oneD H name val) (Maps.has (oneD H name val)) 1) :
    ∃ w' left', (Instr.next (.pointer (some ⟨r, 0, none⟩)) false 0).run Tryd.prog w = .ok (.tuple #[.bool true, .string name, .string val]) w' ∧ w'.ranges Tryd.prog 9 (plainElem (H := H) Tryd.prog 9) b r 1 (oneD H name val) left' 0 ∧ w.grownBy w' (some r) ∧
      (Instr.entry (.pointer (some ⟨r, 0, none⟩))).run Tryd.prog w' = .ok (.tuple #[.string name, .string val]) w' := by
  rcases h.next law9 0 with ⟨h0, _⟩ | ⟨key, v, kl, y, w', cnt', hkey, hlk, hv, hat, hrun, hrg, hlt, hgr, hsz, hen⟩
  · omega
  · obtain ⟨x, rfl⟩ := Maps.keyOf_string_inv Tryd.underlying9 hkey
    have hkl : kl = .string x.data.toList := by
      rw [keyOf_string Tryd.underlying9] at hkey
      simp [mapKey, Tryd.underlying9] at hkey
      exact hkey.2.symm
    subst hkl
    have hx : x = name := by
      unfold oneD at hlk
      rw [Maps.has_eq] at hlk
      simp only [List.any_cons, List.any_nil, Bool.or_false] at hlk
      have e := sameKey_eq hlk
      injection e with e
      exact (ByteArray.ext (Array.ext' e)).symm
    subst hx
    have hc : v = .string val := by
      have hy := hat .nil
      simp only [oneD, DataW.atKey, List.find?_cons, Lit.sameKey, beq_self_eq_true] at hy
      cases v with
      | string s =>
        simp [plainElem, Tryd.underlying9] at hv
        obtain ⟨_, rfl⟩ := hv
        have hy' : (DataW.lit (.string val.data.toList) : DataW H) = .lit (.string s.data.toList) := hy
        injection hy' with hy'
        injection hy' with hy'
        rw [ByteArray.ext (Array.ext' hy')]
      | _ => simp [plainElem, Tryd.underlying9] at hv
    subst hc
    obtain rfl : cnt' = 0 := by omega
    exact ⟨w', _, hrun, hrg, hgr, hen⟩
end Url
theorem trim_calls (s : ByteArray) (w : World) (hs : s.size ≤ 1099511627776) (ha : Url.Ascii s) (hT : TabA w) :
    Calls Tryd.prog 63 #[.string s] w fun e w' => e = .returned (.string (Url.trimB s)) ∧ Below w.heap.size w w' := by
  refine (Tryd.strings_TrimSpace s w (by omega) (fun j b hb => ha b (List.mem_of_getElem? hb)) hT.2).mono ?_
  rintro e w' ⟨rfl, rfl⟩
  exact ⟨rfl, bytes_below (Below.refl _ _) (Nat.le_refl _) 5 s⟩
theorem upper_calls (s : ByteArray) (w : World) (hs : s.size ≤ 1099511627776) (ha : Url.Ascii s) :
    Calls Tryd.prog 58 #[.string s] w fun e w' => e = .returned (.string ⟨(Lib.toUpperA s.data.toList).toArray⟩) ∧ Below w.heap.size w w' :=
  Tryd.strings_ToUpper_ascii s w (by omega) (fun j b hb => ha b (List.mem_of_getElem? hb))
theorem Url.trim_ascii (s : ByteArray) (h : Url.Ascii s) : Url.Ascii (Url.trimB s) := by
  intro x hx
  have hx' : x ∈ Lib.trimSpace s.data.toList := by simpa [Url.trimB] using hx
  unfold Lib.trimSpace at hx'
  have h1 := (List.dropWhile_sublist _).mem (List.mem_reverse.1 hx')
  have h2 := (List.dropWhile_sublist _).mem (List.mem_reverse.1 h1)
  exact h x h2
theorem below_of_grown {a b : World} {B : Nat} (h : a.grownBy b none) (hB : B ≤ a.heap.size) : Below B a b := ⟨h.os, h.tape, h.output, h.size, fun i hi => h.block i (by omega) (fun e => by cases e)⟩
set_option maxHeartbeats 16000000 in
set_option maxRecDepth 100000 in
theorem BuildUrl_one (H : Type) (server : ByteArray) (port : Int) (service user password u p t h s key val out : ByteArray) (ps : List ByteArray) (srv : Bool) (b : Nat) (w : World) (hp : Url.parts server port service user password u p t h s) (hh : (Url.head u p h s).size ≤ 100000)
    (ho : Url.Opts key val ps srv) (hout : ∃ k, ZU.goora_zzTrimRight.f k (Url.retN (Url.head u p h s ++ (⟨#[63]⟩ : ByteArray)) key srv ps) ⟨#[38]⟩ = some out)
    (hown : w.ownsMap Tryd.prog 9 (plainElem (H := H) Tryd.prog 9) b 1 (oneD H key val)) (htab : TabA w) :
    Calls Tryd.prog 50 #[.string server, .int .i64 port, .string service, .string user, .string password, .map (some b)] w fun e w' => e = .returned (.string out) ∧ Below w.heap.size w w' := by
  obtain ⟨h1, h2, h3, h4, h5, s1, s2, s3, s4⟩ := hp
  obtain ⟨hk, hv, hka, hva, ⟨ks, hsplit⟩, hps, hpz, hpa, hsrv⟩ := ho
  obtain ⟨ko, hout⟩ := hout
  have HT := Lib.hid (fun W hb => (tabA_all htab W hb).1)
  have HTa := Lib.hid (tabA_all htab)
  have HTt := Lib.hid (fun W (hb : Below w.heap.size w W) => (tabA_all htab W hb).1.1)
  have HB := Lib.hid (Below.refl w.heap.size w)
  have HU := Lib.hid (fun W hT => url_PathEscape.calls user u W h1 hT)
  have HP := Lib.hid (fun W hT => url_PathEscape.calls password p W h2 hT)
  have HS := Lib.hid (fun W hT => url_PathEscape.calls service s W h5 hT)
  have HI := Lib.hid (fun W (hT : Tab W) => strconv_Itoa.calls port t W h3 hT)
  have HJ := Lib.hid (fun W => net_JoinHostPort.calls server t h W h4)
  have HTrim := Lib.hid (fun W hT => trim_calls val W (by omega) hva hT)
  have HSplit := Lib.hid (fun W => ZU.goora_zzSplit.calls ks (Url.trimB val) ⟨#[44]⟩ ps W hsplit)
  obtain ⟨us, hus⟩ : ∃ us : ByteArray, us = ⟨(Lib.toUpperA key.data.toList).toArray⟩ := ⟨_, rfl⟩
  have hsr : (us.toList == ([83, 69, 82, 86, 69, 82] : List UInt8)) = srv := by
    rw [hus, Go.ByteArray.toList_eq, hsrv, Bool.eq_iff_iff, beq_iff_eq, decide_eq_true_iff]
  have HUp := Lib.hid (fun W => by have := upper_calls key W (by omega) hka; rw [← hus] at this; exact this)
  have HPart := Lib.hid (fun q (hq : q ∈ ps) W hT => trim_calls q W (by have := hpz q hq; omega) (hpa q hq) hT)
  have HQ := Lib.hid (fun q (hq : q ∈ ps) W hT => url_QueryEscape.calls (Url.trimB q) _ W (Url.query_f (Url.trimB q) (by have := hpz q hq; have := Url.trim_size q; omega)) hT)
  have HO := Lib.hid hown
  have HOut := Lib.hid (fun W => ZU.goora_zzTrimRight.calls ko _ ⟨#[38]⟩ out W hout)
  have HSrv := Lib.hid hsrv
  have HPz := Lib.hid hpz
  have hne : ∀ W, (binOp .neq 79 (.map (some b)) (.map none)).run Tryd.prog W = .ok (.bool true) W := fun W => run_neq_map_nil W 79 9 9 (some b) Tryd.underlying79
  have hkm : key.size ≤ maxLen := by unfold maxLen; omega
  clear h1 h2 h3 h4 h5 htab hva hka hsplit hpa hown hout hsrv hpz hv hus
  go_enter Tryd.func50, Tryd.ntmps50
  go_wp2_with (first | (go_at_call 62; (with_reducible refine (HU.out _ (HT.out _ HB.out)).mono ?_); rintro e w1 ⟨rfl, hb⟩; have HB1 := Lib.hid (bl_trans HB.out hb); clear HB hb) | (go_at_call 62; (with_reducible refine (HP.out _ (HT.out _ HB1.out)).mono ?_); rintro e w2 ⟨rfl, hb⟩; have HB2 := Lib.hid (bl_trans HB1.out hb); clear HB1 hb) | (go_at_call 49; (with_reducible refine (HI.out _ (HTt.out _ HB2.out)).mono ?_); rintro e w3 ⟨rfl, hb⟩; have HB3 := Lib.hid (bl_trans HB2.out hb); clear HB2 hb) | (go_at_call 59; (with_reducible refine (HJ.out _).mono ?_); rintro e w4 ⟨rfl, n4, rfl⟩; have HB4 := Lib.hid (bl_trans HB3.out (bl_drewN _ n4)); clear HB3) | (go_at_call 62; (with_reducible refine (HS.out _ (HT.out _ HB4.out)).mono ?_); rintro e w5 ⟨rfl, hb⟩; have HB5 := Lib.hid (bl_trans HB4.out hb); clear HB4 hb) | (at_range; refine wpList_range_own _ rfl _ 79 rfl 9 9 law9 Tryd.underlying79 _ b 1 _ rfl (HO.out.kept (grown_bl (grown_refl w none) HB5.out) (fun e => by cases e)) ?_; intro w6 hrg6 hg6 hs6))
  go_frame
  have HR6 := Lib.hid hrg6
  have HB6 := Lib.hid (HB5.out.trans (below_of_grown hg6 HB5.out.size))
  have hr0 := HB5.out.size
  clear hrg6 hg6 hs6
  generalize w5.heap.size = r0 at *
  go_loopw [13] (fun v13 wr => ∃ (cnt : Nat) (left : Lit → Bool), Hid (wr.ranges Tryd.prog 9 (plainElem (H := H) Tryd.prog 9) b r0 1 (oneD H key val) left cnt) ∧ Hid (Below w.heap.size w wr) ∧
    ((cnt = 1 ∧ left = Maps.has (oneD H key val) ∧ v13 = .string (Url.head u p h s ++ (⟨#[63]⟩ : ByteArray))) ∨ (cnt = 0 ∧ v13 = .string (Url.retN (Url.head u p h s ++ (⟨#[63]⟩ : ByteArray)) key srv ps)))) (fun _ wr => wr.rangeLeft b r0)
  case atStart => exact ⟨1, _, HR6, HB6, .inl ⟨rfl, rfl, rfl⟩⟩
  case round =>
    clear HR6 HB6 hne
    obtain ⟨cnt, left, HR, HBr, hcase⟩ := hrel
    rcases hcase with ⟨rfl, rfl, rfl⟩ | ⟨rfl, rfl⟩
    · obtain ⟨w7, left', hnx, hrg7, hg7, hen⟩ := Url.next_one hkm HR.out
      have HB7 := Lib.hid (grown_below HBr.out hg7 HBr.out.size hr0)
      have HR7 := Lib.hid hrg7
      clear hrg7 hg7
      go_wp2_with (first | (go_at_call 63; (with_reducible refine (HTrim.out _ (HTa.out _ HB7.out)).mono ?_); rintro e w8 ⟨rfl, hb⟩; have HB8 := Lib.hid (HB7.out.trans (hb.mono HB7.out.size)); have HL8 := Lib.hid hb; clear hb) | (go_at_call 64; (with_reducible refine (HSplit.out _).mono ?_); rintro e w9 ⟨v0, rfl, hR, hb⟩; have HB9 := Lib.hid (HB8.out.trans (hb.mono HB8.out.size)); have HL9 := Lib.hid (bl_trans HL8.out hb); clear hb; obtain ⟨A, c, rfl, hc, hC⟩ := Kd.R_reads hR; have HC := Lib.hid hC; clear hR hC))
      have hret0 : (Url.head u p h s ++ (⟨#[63]⟩ : ByteArray)).size ≤ 100001 := by rw [ByteArray.size_append]; have e1 : (⟨#[63]⟩ : ByteArray).size = 1 := rfl; omega
      have HRS := Lib.hid (fun i => Url.retN_size (Url.head u p h s ++ (⟨#[63]⟩ : ByteArray)) key srv hk (ps.take i) (fun q hq => HPz.out q (List.mem_of_mem_take hq)))
      have HRN := Lib.hid (Url.retN_snoc (Url.head u p h s ++ (⟨#[63]⟩ : ByteArray)) key srv ps)
      have HEnd : Hid (Url.retN (Url.head u p h s ++ (⟨#[63]⟩ : ByteArray)) key srv (ps.take 0) = Url.head u p h s ++ (⟨#[63]⟩ : ByteArray)) := Lib.hid rfl
      have HLn : Hid (ps.length = ps.length) := Lib.hid rfl
      generalize hR0 : Url.head u p h s ++ (⟨#[63]⟩ : ByteArray) = ret0 at *
      have HR0 := Lib.hid hR0
      clear hR0
      go_loopw [13, 51] (fun v13 v51 wr => ∃ i : Nat, i ≤ ps.length ∧ v51 = .int .i64 i ∧ v13 = .string (Url.retN ret0 key srv (ps.take i)) ∧ Hid (Below w.heap.size w wr) ∧ Hid (Below w7.heap.size w7 wr) ∧ Hid (Kd.C Kd.string wr A ps.length ps)) (fun _ v51 _ => ps.length - (intOf v51).toNat)
      case atStart => exact ⟨0, Nat.zero_le _, rfl, by rw [HEnd.out], HB9, HL9, HC⟩
      case round =>
        obtain ⟨i, hi, rfl, rfl, HBi, HLi, HCi⟩ := hrel
        by_cases hlt : i < ps.length
        · obtain ⟨ad, had, hx⟩ := Kd.at_string HCi.out (i : Int) (by omega) (by omega)
          subst had
          rw [Int.toNat_natCast] at hx
          have hmem : rdOf ByteArray.empty ps (i : Int) ∈ ps := by
            unfold rdOf
            rw [Int.toNat_natCast, List.getD_eq_getElem?_getD, List.getElem?_eq_getElem hlt]
            exact List.getElem_mem _
          have hq := HPz.out _ hmem
          have HTr := Lib.hid (HPart.out _ hmem)
          have HQu := Lib.hid (HQ.out _ hmem)
          have hsi := HRS.out i
          have hli : (ps.take i).length ≤ 500 := by rw [List.length_take]; omega
          have HRi := Lib.hid (HRN.out i hlt)
          change Hid (_ = _ ++ Url.piece key srv (rdOf ByteArray.empty ps (i : Int))) at HRi
          have hts := Url.trim_size (rdOf ByteArray.empty ps (i : Int))
          have hps2 := Url.partE_size srv (rdOf ByteArray.empty ps (i : Int)) hq
          generalize rdOf ByteArray.empty ps (i : Int) = q at *
          have hrs : (Url.retN ret0 key srv (ps.take i)).size ≤ 1000000 := by omega
          generalize Url.retN ret0 key srv (ps.take i) = rt at *
          clear hsi hli hmem
          cases srv
          · have HE2 : Hid (Url.partE false q = strOfNums (Url.escL 32 (bytesOf (Url.trimB q)))) := Lib.hid rfl
            have HPi : Hid (Url.piece key false q = ((key ++ (⟨#[61]⟩ : ByteArray)) ++ Url.partE false q) ++ (⟨#[38]⟩ : ByteArray)) := Lib.hid rfl
            rw [← HE2.out] at HQu
            generalize Url.partE false q = eq at *
            clear HE2
            go_wp2_with (first | (go_at_call 63; (with_reducible refine (HTr.out _ (HTa.out _ HBi.out)).mono ?_); rintro e wa ⟨rfl, hb⟩; have HBa := Lib.hid (HBi.out.trans (hb.mono HBi.out.size)); have HLa := Lib.hid (bl_trans HLi.out hb); have HCa := Lib.hid (Kd.C_below HCi.out hb); clear hb) | (go_at_call 58; (with_reducible refine (HUp.out _).mono ?_); rintro e wb ⟨rfl, hb⟩; have HBb := Lib.hid (HBa.out.trans (hb.mono HBa.out.size)); have HLb := Lib.hid (bl_trans HLa.out hb); have HCb := Lib.hid (Kd.C_below HCa.out hb); clear hb) | (go_at_call 65; (with_reducible refine (HQu.out _ (HT.out _ HBb.out)).mono ?_); rintro e wc ⟨rfl, hb⟩; have HBc := Lib.hid (HBb.out.trans (hb.mono HBb.out.size)); have HLc := Lib.hid (bl_trans HLb.out hb); have HCc := Lib.hid (Kd.C_below HCb.out hb); clear hb))
            go_roundw
            case rel => exact ⟨i + 1, by omega, by go_num, by rw [HRi.out, HPi.out], HBc, HLc, HCc⟩
            case measure => simp [intOf]; omega
          · have e2 : Url.partE true q = Url.trimB q := rfl
            rw [e2] at hps2
            clear e2
            go_wp2_with (first | (go_at_call 63; (with_reducible refine (HTr.out _ (HTa.out _ HBi.out)).mono ?_); rintro e wa ⟨rfl, hb⟩; have HBa := Lib.hid (HBi.out.trans (hb.mono HBi.out.size)); have HLa := Lib.hid (bl_trans HLi.out hb); have HCa := Lib.hid (Kd.C_below HCi.out hb); clear hb) | (go_at_call 58; (with_reducible refine (HUp.out _).mono ?_); rintro e wb ⟨rfl, hb⟩; have HBb := Lib.hid (HBa.out.trans (hb.mono HBa.out.size)); have HLb := Lib.hid (bl_trans HLa.out hb); have HCb := Lib.hid (Kd.C_below HCa.out hb); clear hb))
            go_roundw
            case rel => exact ⟨i + 1, by omega, by go_num, by rw [HRi.out]; rfl, HBb, HLb, HCb⟩
            case measure => simp [intOf]; omega
        · obtain rfl : i = ps.length := by omega
          go_wp2
          go_roundw
          case rel => exact ⟨0, left', Lib.hid (HR7.out.kept (grown_bl (grown_refl w7 none) HLi.out) (fun e => by cases e) (fun e => by cases e)), HBi, .inr ⟨rfl, by rw [List.take_length, ← HR0.out]⟩⟩
          case measure =>
            have e1 := (HR7.out.kept (grown_bl (grown_refl w7 none) HLi.out) (fun e => by cases e) (fun e => by cases e)).left_eq
            have e2 := HR.out.left_eq
            rw [e1, e2]
            omega
    · have hnx := Url.next_none HR.out
      go_wp2_with (go_at_call 66; (with_reducible refine (HOut.out _).mono ?_); rintro e w7 ⟨rfl, n7, rfl⟩)
      go_ret
      exact ⟨rfl, HBr.out.trans ((bl_drewN _ n7).mono HBr.out.size)⟩
end Go.Proofs.YtipkpgmgjdfgoaaDoor.X
