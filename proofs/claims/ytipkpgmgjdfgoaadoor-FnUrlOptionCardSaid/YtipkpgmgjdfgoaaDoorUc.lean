/- The law FnUrlClean: an address has neither blanks nor signs beyond ASCII, and no question mark without options. -/
import Derived.Test.YtipkpgmgjdfgoaaDoorUb
namespace Go.Proofs.YtipkpgmgjdfgoaaDoor.X
open Go.RowKit Go.Proofs.YtipkpgmgjdfgoaaDoorW.PrintWords Go.Proofs.YtipkpgmgjdfgoaaDoorW.PrintMore
attribute [local go_sem] setCell_drewN alloc_drewN
set_option linter.unusedVariables false
set_option linter.unusedSimpArgs false
namespace Url
/-- Strings that lie one behind the other, read as a slice. -/
theorem C_ofS {w : World} {l : List ByteArray} {g o : Nat} (hm : l.length ≤ 9223372036854775807) (h : ∀ i : Nat, i < l.length → w.cell? ⟨g, o + i, none⟩ = some (.string (l.getD i ByteArray.empty))) : Kd.C Kd.string w (some ⟨g, o, none⟩) l.length l := by
  refine ⟨rfl, hm, fun _ => ⟨_, rfl, fun j p hj => ?_⟩⟩
  have hlt := (List.getElem?_eq_some_iff.1 hj).1
  refine ⟨[.string p], rfl, rfl, fun i u hu => ?_⟩
  have hi : i = 0 := by
    rcases i with _ | i
    · rfl
    · simp at hu
  subst hi
  have hu' : u = .string p := by simpa using hu.symm
  subst hu'
  have hp : l.getD j ByteArray.empty = p := by rw [List.getD_eq_getElem?_getD, hj]; rfl
  have hcell := h j hlt
  rw [hp] at hcell
  unfold Addr.add
  split
  · rename_i e
    have e' : j * 1 + 0 = 0 := by simpa [Kd.string, Kd.scalar] using e
    have hj0 : j = 0 := by omega
    subst hj0
    exact hcell
  · simpa [Kd.string, Kd.scalar] using hcell
theorem short1 (k : Nat) (l : List ByteArray) (n i : Int) (h0 : 0 ≤ i) (h1 : i < n) (h2 : n = l.length) (hn : n ≤ 100) (x : ByteArray) (hx : rdOf ByteArray.empty l i = x) :
    ZE.laws_configShort.l0 (k + 1) l n i = if x.size ≤ 300 then ZE.laws_configShort.l0 k l n (i + 1) else some false := by
  simp only [ZE.laws_configShort.l0]
  rw [if_pos h1, if_pos h0, if_pos (by omega), hx, show wrap64 (i + 1) = i + 1 from by unfold wrap64; omega]
  by_cases h : x.size ≤ 300
  · rw [if_neg (by omega), if_pos h]
  · rw [if_pos (by omega), if_neg h]
theorem short_end (k : Nat) (l : List ByteArray) (n i : Int) (h : ¬ i < n) : ZE.laws_configShort.l0 (k + 1) l n i = some true := by
  simp only [ZE.laws_configShort.l0]
  rw [if_neg h]
theorem short3 (a b c : ByteArray) : ZE.laws_configShort.f 4 [a, b, c] = some (decide (a.size ≤ 300 ∧ b.size ≤ 300 ∧ c.size ≤ 300)) := by
  show ZE.laws_configShort.l0 (3 + 1) [a, b, c] 3 0 = _
  rw [short1 3 [a, b, c] 3 0 (by omega) (by omega) rfl (by omega) a rfl, show (0 : Int) + 1 = 1 from rfl]
  rw [show ZE.laws_configShort.l0 3 [a, b, c] 3 1 = _ from short1 2 [a, b, c] 3 1 (by omega) (by omega) rfl (by omega) b rfl, show (1 : Int) + 1 = 2 from rfl]
  rw [show ZE.laws_configShort.l0 2 [a, b, c] 3 2 = _ from short1 1 [a, b, c] 3 2 (by omega) (by omega) rfl (by omega) c rfl, show (2 : Int) + 1 = 3 from rfl]
  rw [show ZE.laws_configShort.l0 1 [a, b, c] 3 3 = _ from short_end 0 [a, b, c] 3 3 (by omega)]
  by_cases h1 : a.size ≤ 300 <;> by_cases h2 : b.size ≤ 300 <;> by_cases h3 : c.size ≤ 300 <;> simp [h1, h2, h3]
def Clean (x : Int) : Prop := 32 < x ∧ x < 127 ∧ x ≠ 63 ∧ x ≠ 35
instance (x : Int) : Decidable (Clean x) := inferInstanceAs (Decidable (_ ∧ _))
set_option maxRecDepth 100000 in
theorem esc_clean0 : ∀ c : Fin 256, ∀ y ∈ esc1 2 (c.val : Int), Clean y := by decide +kernel
theorem esc_clean (l : List Int) (h : Byt l) : ∀ y ∈ escL 2 l, Clean y := by
  intro y hy
  unfold escL at hy
  obtain ⟨c, hc, hy⟩ := List.mem_flatMap.1 hy
  have := h c hc
  have h2 := esc_clean0 ⟨c.toNat, by omega⟩
  rw [show ((⟨c.toNat, by omega⟩ : Fin 256).val : Int) = c from by show ((c.toNat : Nat) : Int) = c; omega] at h2
  exact h2 y hy
theorem bytesOf_str (l : List Int) (h : Byt l) : bytesOf (strOfNums l) = l := by
  unfold bytesOf strOfNums
  simp only [List.map_map, Function.comp_def]
  conv => rhs; rw [← List.map_id l]
  refine List.map_congr_left fun n hn => ?_
  have := h n hn
  rw [UInt8.toNat_ofNat']
  show ((n.toNat % 256 : Nat) : Int) = n
  omega
theorem bytesOf_app (a b : ByteArray) : bytesOf (a ++ b) = bytesOf a ++ bytesOf b := by simp [bytesOf]
theorem clean_byt {l : List Int} (h : ∀ y ∈ l, Clean y) : Byt l := fun x hx => by have := h x hx; unfold Clean at this; omega
theorem size_str (l : List Int) : (strOfNums l).size = l.length := by unfold strOfNums; show ((l.map _).toArray).size = _; simp
theorem esc_size (m : Int) (l : List Int) : (escL m l).length ≤ 3 * l.length := by
  rw [escL_len]
  have : l.countP (hx m) ≤ l.length := List.countP_le_length
  omega
theorem path_f (a : ByteArray) (h : a.size ≤ 1099511627776) : url_PathEscape.f a = some (strOfNums (escL 2 (bytesOf a))) := by
  unfold url_PathEscape.f url_escape.f
  rw [if_pos ⟨h, .inl rfl⟩]
/-- An address without options: all its signs are clean. -/
theorem parts_of (service user password : ByteArray) (h1 : service.size ≤ 300) (h2 : user.size ≤ 300) (h3 : password.size ≤ 300) :
    ∃ u p t h s, parts ⟨#[104]⟩ 1 service user password u p t h s ∧ (head u p h s).size ≤ 10000 ∧ ∀ x ∈ bytesOf (head u p h s), Clean x := by
  have hu := esc_clean (bytesOf user) (byt_bytesOf user)
  have hp := esc_clean (bytesOf password) (byt_bytesOf password)
  have hs := esc_clean (bytesOf service) (byt_bytesOf service)
  have zu := esc_size 2 (bytesOf user)
  have zp := esc_size 2 (bytesOf password)
  have zs := esc_size 2 (bytesOf service)
  rw [bytesOf_length] at zu zp zs
  refine ⟨_, _, ⟨#[49]⟩, ⟨#[104, 58, 49]⟩, _, ⟨path_f user (by omega), path_f password (by omega), by decide +kernel, by decide +kernel, path_f service (by omega), ?_, ?_, by decide, ?_⟩, ?_, ?_⟩
  · rw [size_str]; omega
  · rw [size_str]; omega
  · rw [size_str]; omega
  · unfold head
    simp only [ByteArray.size_append, size_str]
    have e1 : (⟨#[111, 114, 97, 99, 108, 101, 58, 47, 47]⟩ : ByteArray).size = 9 := rfl
    have e2 : (⟨#[58]⟩ : ByteArray).size = 1 := rfl
    have e3 : (⟨#[64]⟩ : ByteArray).size = 1 := rfl
    have e4 : (⟨#[104, 58, 49]⟩ : ByteArray).size = 3 := rfl
    have e5 : (⟨#[47]⟩ : ByteArray).size = 1 := rfl
    omega
  · unfold head
    simp only [bytesOf_app, bytesOf_str _ (clean_byt hu), bytesOf_str _ (clean_byt hp), bytesOf_str _ (clean_byt hs), List.mem_append]
    have k1 : ∀ x ∈ bytesOf ⟨#[111, 114, 97, 99, 108, 101, 58, 47, 47]⟩, Clean x := by decide
    have k2 : ∀ x ∈ bytesOf ⟨#[58]⟩, Clean x := by decide
    have k3 : ∀ x ∈ bytesOf ⟨#[64]⟩, Clean x := by decide
    have k4 : ∀ x ∈ bytesOf ⟨#[104, 58, 49]⟩, Clean x := by decide
    have k5 : ∀ x ∈ bytesOf ⟨#[47]⟩, Clean x := by decide
    intro x hx
    rcases hx with ((((((hx | hx) | hx) | hx) | hx) | hx) | hx) | hx
    · exact k1 x hx
    · exact hu x hx
    · exact k2 x hx
    · exact hp x hx
    · exact k3 x hx
    · exact k4 x hx
    · exact k5 x hx
    · exact hs x hx
end Url
def laws_FnUrlClean.f (a0 a1 a2 : ByteArray) : Option Bool := if a0.size ≤ 140737488351232 ∧ a1.size ≤ 140737488351232 ∧ a2.size ≤ 140737488351232 then some true else none
set_option maxHeartbeats 8000000 in
set_option maxRecDepth 100000 in
theorem laws_FnUrlClean.calls (a0 a1 a2 : ByteArray) (r : Bool) (w : World) (h : laws_FnUrlClean.f a0 a1 a2 = some r) (htab : TabU w) :
    Calls Tryd.prog 8 #[.string a0, .string a1, .string a2] w fun e w' => e = .returned (.bool r) ∧ Below w.heap.size w w' := by
  unfold laws_FnUrlClean.f at h
  split at h
  · rename_i hsz
    obtain ⟨z0, z1, z2⟩ := hsz
    obtain rfl := Option.some.inj h
    clear h
    by_cases g0 : (a0.size : Int) > 2147483647
    · have t0 : decide ((a0.size : Int) > 2147483647) = true := decide_eq_true g0
      clear g0
      go_enter Tryd.func8, Tryd.ntmps8
      go_wp2
      go_ret
      exact ⟨rfl, Below.refl _ _⟩
    have t0 : decide ((a0.size : Int) > 2147483647) = false := decide_eq_false g0
    by_cases g1 : (a1.size : Int) > 2147483647
    · have t1 : decide ((a1.size : Int) > 2147483647) = true := decide_eq_true g1
      clear g0 g1
      go_enter Tryd.func8, Tryd.ntmps8
      go_wp2
      go_ret
      exact ⟨rfl, Below.refl _ _⟩
    have t1 : decide ((a1.size : Int) > 2147483647) = false := decide_eq_false g1
    by_cases g2 : (a2.size : Int) > 2147483647
    · have t2 : decide ((a2.size : Int) > 2147483647) = true := decide_eq_true g2
      clear g0 g1 g2
      go_enter Tryd.func8, Tryd.ntmps8
      go_wp2
      go_ret
      exact ⟨rfl, Below.refl _ _⟩
    have t2 : decide ((a2.size : Int) > 2147483647) = false := decide_eq_false g2
    clear g0 g1 g2
    have HT := Lib.hid (tabU_all htab)
    have hB1 : Below w.heap.size w (w.alloc (.cells #[.string a0, .string a1, .string a2] 9)) := (Below.refl _ _).alloc (Nat.le_refl _) _
    have hC : Kd.C Kd.string (w.alloc (.cells #[.string a0, .string a1, .string a2] 9)) (some ⟨w.heap.size, 0, none⟩) [a0, a1, a2].length [a0, a1, a2] := Url.C_ofS (by simp) (fun i hi => by
      rw [xb_cell (xb_new _ _), Nat.zero_add]
      have hi' : i < 3 := hi
      rcases i with _ | _ | _ | i
      · rfl
      · rfl
      · rfl
      · omega)
    have hs0 := ZE.laws_configShort.calls 4 _ 3 [a0, a1, a2] _ _ hC (by simp) (Url.short3 a0 a1 a2)
    rw [show [a0, a1, a2].length = 3 from rfl] at hs0
    have HS := Lib.hid hs0
    clear hs0
    have HB1 := Lib.hid hB1
    clear hC hB1 htab
    by_cases hsh : a0.size ≤ 300 ∧ a1.size ≤ 300 ∧ a2.size ≤ 300
    · rw [decide_eq_true hsh] at HS
      obtain ⟨u, p, t, hh, s, hparts, hz, hcl⟩ := Url.parts_of a0 a1 a2 hsh.1 hsh.2.1 hsh.2.2
      have HU := Lib.hid (fun W hT => Url_nil _ _ _ _ _ u p t hh s W hparts hT)
      clear hparts hsh
      generalize Url.head u p hh s = url at *
      have hkb : ∀ W, (convert 9 43 (.string url)).run Tryd.prog W = .ok (.slice (some ⟨W.heap.size, 0, none⟩) url.size (grownCap W url.size 0 5)) (Lib.bytesWorld W 5 url) := fun W => print_bytes (P := Tryd.prog) 9 43 5 Tryd.underlying9 Tryd.underlying43 Tryd.underlying5 url W
      have HCl := Lib.hid hcl
      have HBC := Lib.hid (fun W j hj => Lib.bytesWorld_cell W 5 url j hj)
      clear hcl
      go_enter Tryd.func8, Tryd.ntmps8
      go_wp2_with (first | (go_at_call 18; (with_reducible refine HS.out.mono ?_); rintro e w2 ⟨rfl, n2, rfl⟩; have HB2 := Lib.hid (HB1.out.trans ((bl_drewN _ n2).mono HB1.out.size))) | (go_at_call 28; (with_reducible refine (HU.out _ (HT.out _ HB2.out)).mono ?_); rintro e w3 ⟨rfl, hb⟩; have HB3 := Lib.hid (HB2.out.trans (hb.mono HB2.out.size)); clear hb))
      have HBw : Hid (Below w.heap.size w (Lib.bytesWorld w3 5 url)) := Lib.hid (bytes_below HB3.out HB3.out.size 5 url)
      have HCe : Hid (∀ j : Nat, j < url.size → (Lib.bytesWorld w3 5 url).cell? ⟨w3.heap.size, j, none⟩ = some (.int .u8 ((bytesOf url).getD j 0))) := Lib.hid (fun j hj => by
        rw [Lib.bytesWorld_cell w3 5 url j hj]
        have h' : j < url.data.toList.length := by rw [data_length]; omega
        simp [bytesOf, List.getD_eq_getElem?_getD, List.getElem?_eq_getElem h'])
      generalize Lib.bytesWorld w3 5 url = w4 at *
      have HLen := Lib.hid (bytesOf_length url)
      generalize bytesOf url = l at *
      generalize grownCap w3 url.size 0 5 = cap at *
      generalize url.size = n at *
      generalize w3.heap.size = g at *
      clear hkb HB3 HBC HU HS HB1 HB2
      go_loop [35] (fun v35 => ∃ i : Nat, i ≤ n ∧ v35 = .int .i64 i) (fun v35 => n - (intOf v35).toNat)
      case atStart => exact ⟨0, Nat.zero_le _, rfl⟩
      case round =>
        obtain ⟨i, hi, rfl⟩ := hrel
        by_cases hlt : i < n
        · have x0 := HCe.out i hlt
          have hx : Url.Clean (l.getD i 0) := HCl.out _ (by
            rw [List.getD_eq_getElem?_getD, List.getElem?_eq_getElem (by rw [HLen.out]; exact hlt)]; exact List.getElem_mem _)
          generalize l.getD i 0 = x at *
          obtain ⟨y1, y2, y3, y4⟩ := hx
          have q1 : decide (x ≤ 32) = false := decide_eq_false (by omega)
          have q2 : decide (x ≥ 127) = false := decide_eq_false (by omega)
          have q3 : (x == 63) = false := beq_eq_false_iff_ne.2 y3
          have q4 : (x == 35) = false := beq_eq_false_iff_ne.2 y4
          clear y3 y4
          go_wp2
          go_round
          case rel => exact ⟨i + 1, by omega, by go_num⟩
          case measure => simp [intOf]; omega
        · obtain rfl : i = n := by omega
          go_wp2_with (go_at_call 27; (with_reducible refine (urlAwake_calls _ (HT.out _ HBw.out)).mono ?_); rintro e w5 ⟨rfl, hb⟩; have HB5 := Lib.hid (HBw.out.trans (hb.mono HBw.out.size)); clear hb)
          go_ret
          exact ⟨rfl, HB5.out⟩
    · rw [decide_eq_false hsh] at HS
      clear hsh
      go_enter Tryd.func8, Tryd.ntmps8
      go_wp2_with (first | (go_at_call 18; (with_reducible refine HS.out.mono ?_); rintro e w2 ⟨rfl, n2, rfl⟩; have HB2 := Lib.hid (HB1.out.trans ((bl_drewN _ n2).mono HB1.out.size))) | (go_at_call 27; (with_reducible refine (urlAwake_calls _ (HT.out _ HB2.out)).mono ?_); rintro e w3 ⟨rfl, hb⟩; have HB3 := Lib.hid (HB2.out.trans (hb.mono HB2.out.size)); clear hb))
      go_ret
      exact ⟨rfl, HB3.out⟩
  · cases h
end Go.Proofs.YtipkpgmgjdfgoaaDoor.X
