/- The law FnUrlOption: an option stands behind a question mark, once for each part of its value between commas, escaped as in a query, but for the option SERVER. -/
import Derived.Test.YtipkpgmgjdfgoaaDoorUs
import Derived.Test.YtipkpgmgjdfgoaaDoorUh
namespace Go.Proofs.YtipkpgmgjdfgoaaDoor.X
open Go.RowKit Go.Proofs.YtipkpgmgjdfgoaaDoorW.PrintWords Go.Proofs.YtipkpgmgjdfgoaaDoorW.PrintMore
attribute [local go_sem] setCell_drewN alloc_drewN
set_option linter.unusedVariables false
set_option linter.unusedSimpArgs false
namespace Url
theorem idx_not (c : UInt8) : ∀ l : List UInt8, (∀ b ∈ l, b ≠ c) → Lib.indexByte l c = -1
  | [], _ => rfl
  | b :: l, h => by
    have hu : Lib.indexByte (b :: l) c = if b == c then 0 else if Lib.indexByte l c == -1 then -1 else Lib.indexByte l c + 1 := rfl
    rw [hu, idx_not c l (fun x hx => h x (by simp [hx])), beq_eq_false_iff_ne.2 (h b (by simp))]
    rfl
theorem host_join (server t : ByteArray) (h : ∀ x ∈ bytesOf server, hostc x = true) (h1 : server.size ≤ 1099511627776) (h2 : t.size ≤ 1099511627776) : net_JoinHostPort.f server t = some ((server ++ (⟨#[58]⟩ : ByteArray)) ++ t) := by
  unfold net_JoinHostPort.f
  rw [if_pos ⟨h1, h2⟩, idx_not 58 server.data.toList, if_neg (by decide)]
  intro b hb e
  have := h (b.toNat : Int) (by unfold bytesOf; exact List.mem_map_of_mem hb)
  rw [e] at this
  exact absurd this (by decide)
theorem name_ascii (s : ByteArray) (h : ∀ x ∈ bytesOf s, alnum x = true) : Ascii s := by
  intro b hb
  have := h (b.toNat : Int) (by unfold bytesOf; exact List.mem_map_of_mem hb)
  unfold alnum at this
  simp at this
  omega
theorem esc_le (s : ByteArray) (h : s.size ≤ 300) : (strOfNums (escL 2 (bytesOf s))).size ≤ 900 := by
  have := esc_size 2 (bytesOf s)
  rw [bytesOf_length] at this
  rw [size_str]
  omega
theorem rd_mem (L : List ByteArray) (i : Nat) (h : i < L.length) : rdOf ByteArray.empty L (i : Int) ∈ L := by
  unfold rdOf
  rw [Int.toNat_natCast, List.getD_eq_getElem?_getD, List.getElem?_eq_getElem h]
  exact List.getElem_mem _
theorem want_step (hd : ByteArray) (L : List ByteArray) (i : Nat) (h : i < L.length) : wantA 0 hd (L.take (i + 1)) = wantA 0 hd (L.take i) ++ (sepN i ++ rdOf ByteArray.empty L (i : Int)) := by
  have e : rdOf ByteArray.empty L (i : Int) = L[i] := by
    unfold rdOf
    rw [Int.toNat_natCast, List.getD_eq_getElem?_getD, List.getElem?_eq_getElem h]
    rfl
  rw [List.take_succ_eq_append_getElem h, wantA_snoc, List.length_take, e, show 0 + min i L.length = i by omega]
end Url
def laws_FnUrlOption.f (a0 a1 a2 a3_0 a3_1 : ByteArray) : Option Bool := if a0.size ≤ 140737488351232 ∧ a1.size ≤ 140737488351232 ∧ a2.size ≤ 140737488351232 ∧ a3_0.size ≤ 9223372036854775807 ∧ a3_1.size ≤ 9223372036854775807 then some true else none
set_option maxHeartbeats 16000000 in
set_option maxRecDepth 100000 in
theorem laws_FnUrlOption.calls (a0 a1 a2 a3_0 a3_1 : ByteArray) (r : Bool) (w : World) (h : laws_FnUrlOption.f a0 a1 a2 a3_0 a3_1 = some r) (htab : TabA w) :
    Calls Tryd.prog 10 #[.string a0, .string a1, .string a2, .agg #[.string a3_0, .string a3_1]] w fun e w' => e = .returned (.bool r) ∧ Below w.heap.size w w' := by
  unfold laws_FnUrlOption.f at h
  split at h
  · rename_i hsz
    obtain ⟨z0, z1, z2, z3, z4⟩ := hsz
    obtain rfl := Option.some.inj h
    clear h
    by_cases g : (a0.size : Int) > 2147483647
    · have t0 : decide ((a0.size : Int) > 2147483647) = true := decide_eq_true g
      clear g
      go_enter Tryd.func10, Tryd.ntmps10
      go_wp2
      go_ret
      exact ⟨rfl, below_trans_alloc (Below.refl _ _)⟩
    have t0 : decide ((a0.size : Int) > 2147483647) = false := decide_eq_false g
    have g0 : a0.size ≤ 2147483647 := by omega
    clear g
    by_cases g : (a1.size : Int) > 2147483647
    · have t1 : decide ((a1.size : Int) > 2147483647) = true := decide_eq_true g
      clear g
      go_enter Tryd.func10, Tryd.ntmps10
      go_wp2
      go_ret
      exact ⟨rfl, below_trans_alloc (Below.refl _ _)⟩
    have t1 : decide ((a1.size : Int) > 2147483647) = false := decide_eq_false g
    clear g
    by_cases g : (a2.size : Int) > 2147483647
    · have t2 : decide ((a2.size : Int) > 2147483647) = true := decide_eq_true g
      clear g
      go_enter Tryd.func10, Tryd.ntmps10
      go_wp2
      go_ret
      exact ⟨rfl, below_trans_alloc (Below.refl _ _)⟩
    have t2 : decide ((a2.size : Int) > 2147483647) = false := decide_eq_false g
    clear g
    have HTa := Lib.hid (fun W (hb : Below (w.alloc (.cells #[.string a3_0, .string a3_1] 50)).heap.size (w.alloc (.cells #[.string a3_0, .string a3_1] 50)) W) => tabA_all htab W (below_trans_alloc hb))
    have HTu := Lib.hid (fun W (hb : Below (w.alloc (.cells #[.string a3_0, .string a3_1] 50)).heap.size (w.alloc (.cells #[.string a3_0, .string a3_1] 50)) W) => (HTa.out W hb).1)
    have HTt := Lib.hid (fun W (hb : Below (w.alloc (.cells #[.string a3_0, .string a3_1] 50)).heap.size (w.alloc (.cells #[.string a3_0, .string a3_1] 50)) W) => (HTu.out W hb).1)
    have HX := Lib.hid (fun W (hb : Below (w.alloc (.cells #[.string a3_0, .string a3_1] 50)).heap.size (w.alloc (.cells #[.string a3_0, .string a3_1] 50)) W) =>
      (⟨(hb.cell (p := ⟨w.heap.size, 0, none⟩) (by rw [World.size_alloc]; exact Nat.lt_succ_self _)).trans (by rw [xb_cell (xb_new _ _)]; rfl), (hb.cell (p := ⟨w.heap.size, 1, none⟩) (by rw [World.size_alloc]; exact Nat.lt_succ_self _)).trans (by rw [xb_cell (xb_new _ _)]; rfl)⟩ : W.cell? ⟨w.heap.size, 0, none⟩ = some (.string a3_0) ∧ W.cell? ⟨w.heap.size, 1, none⟩ = some (.string a3_1)))
    have HB0 := Lib.hid (Below.refl (w.alloc (.cells #[.string a3_0, .string a3_1] 50)).heap.size (w.alloc (.cells #[.string a3_0, .string a3_1] 50)))
    obtain ⟨zr, hz⟩ : ∃ zr, ZU.laws_zzFits5.f a3_0 a3_1 = some zr := by
      unfold ZU.laws_zzFits5.f
      split
      · exact ⟨_, rfl⟩
      · split <;> exact ⟨_, rfl⟩
    have hz3 : zr = true → a3_0.size ≤ 2147483647 ∧ a3_1.size ≤ 2147483647 := by
      intro e
      subst e
      unfold ZU.laws_zzFits5.f at hz
      split at hz
      · cases hz
      · split at hz
        · cases hz
        · omega
    have HZ := Lib.hid (fun W => ZU.laws_zzFits5.calls a3_0 a3_1 zr W hz)
    clear hz
    cases zr
    · go_enter Tryd.func10, Tryd.ntmps10
      go_wp2_with (first | (go_at_call 29; (with_reducible refine (HZ.out _).mono ?_); rintro e w1 ⟨rfl, hb⟩; have HB1 := Lib.hid (HB0.out.trans (hb.mono HB0.out.size)); clear hb; obtain ⟨ya1, yb1⟩ := HX.out _ HB1.out))
      go_ret
      exact ⟨rfl, below_trans_alloc HB1.out⟩
    obtain ⟨g3, g4⟩ := hz3 rfl
    clear hz3
    obtain ⟨r1, h1⟩ : ∃ r1 : Bool, r1 = decide ((∀ x ∈ bytesOf a0, Url.hostc x = true) ∧ 0 < a0.size ∧ a0.size ≤ 100) := ⟨_, rfl⟩
    have HH := Lib.hid (fun W => laws_urlHost.calls a0 r1 W (by unfold laws_urlHost.f; rw [if_pos g0, h1]))
    cases r1
    · clear h1
      go_enter Tryd.func10, Tryd.ntmps10
      go_wp2_with (first | (go_at_call 29; (with_reducible refine (HZ.out _).mono ?_); rintro e w1 ⟨rfl, hb⟩; have HB1 := Lib.hid (HB0.out.trans (hb.mono HB0.out.size)); clear hb; obtain ⟨ya1, yb1⟩ := HX.out _ HB1.out) | (go_at_call 30; (with_reducible refine (HH.out _).mono ?_); rintro e w2 ⟨rfl, hb⟩; have HB2 := Lib.hid (HB1.out.trans (hb.mono HB1.out.size)); clear hb; obtain ⟨ya2, yb2⟩ := HX.out _ HB2.out) | (go_at_call 27; (with_reducible refine (urlAwake_calls _ (HTu.out _ HB2.out)).mono ?_); rintro e w9 ⟨rfl, hb⟩; have HB9 := Lib.hid (HB2.out.trans (hb.mono HB2.out.size)); clear hb))
      go_ret
      exact ⟨rfl, below_trans_alloc HB9.out⟩
    obtain ⟨hho, hh0, hh1⟩ := of_decide_eq_true h1.symm
    clear h1
    have hcs : ∀ W : World, Kd.C Kd.string (W.alloc (.cells #[.string a1, .string a2, .string a3_1] 9)) (some ⟨W.heap.size, 0, none⟩) [a1, a2, a3_1].length [a1, a2, a3_1] := fun W => Url.C_ofS (by simp) (fun i hi => by
      rw [xb_cell (xb_new _ _), Nat.zero_add]
      have hi' : i < 3 := hi
      rcases i with _ | _ | _ | i
      · rfl
      · rfl
      · rfl
      · omega)
    obtain ⟨r2, h2⟩ : ∃ r2 : Bool, r2 = decide (a1.size ≤ 300 ∧ a2.size ≤ 300 ∧ a3_1.size ≤ 300) := ⟨_, rfl⟩
    have hs0 := fun W : World => ZE.laws_configShort.calls 4 (some ⟨W.heap.size, 0, none⟩) 3 [a1, a2, a3_1] r2 _ (hcs W) (by simp) (by rw [h2]; exact Url.short3 a1 a2 a3_1)
    rw [show [a1, a2, a3_1].length = 3 from rfl] at hs0
    have HS := Lib.hid hs0
    clear hs0 hcs
    cases r2
    · clear h2 hho
      go_enter Tryd.func10, Tryd.ntmps10
      go_wp2_with (first | (go_at_call 29; (with_reducible refine (HZ.out _).mono ?_); rintro e w1 ⟨rfl, hb⟩; have HB1 := Lib.hid (HB0.out.trans (hb.mono HB0.out.size)); clear hb; obtain ⟨ya1, yb1⟩ := HX.out _ HB1.out) | (go_at_call 30; (with_reducible refine (HH.out _).mono ?_); rintro e w2 ⟨rfl, hb⟩; have HB2 := Lib.hid (HB1.out.trans (hb.mono HB1.out.size)); clear hb; obtain ⟨ya2, yb2⟩ := HX.out _ HB2.out) | (go_at_call 18; (with_reducible refine (HS.out _).mono ?_); rintro e w3 ⟨rfl, n3, rfl⟩; have HB3 := Lib.hid ((HB2.out.alloc HB2.out.size (.cells #[.string a1, .string a2, .string a3_1] 9)).trans ((bl_drewN (w2.alloc (.cells #[.string a1, .string a2, .string a3_1] 9)) n3).mono (HB2.out.alloc HB2.out.size (.cells #[.string a1, .string a2, .string a3_1] 9)).size)); obtain ⟨ya3, yb3⟩ := HX.out _ HB3.out) | (go_at_call 27; (with_reducible refine (urlAwake_calls _ (HTu.out _ HB3.out)).mono ?_); rintro e w9 ⟨rfl, hb⟩; have HB9 := Lib.hid (HB3.out.trans (hb.mono HB3.out.size)); clear hb))
      go_ret
      exact ⟨rfl, below_trans_alloc HB9.out⟩
    obtain ⟨k1, k2, k4⟩ := of_decide_eq_true h2.symm
    clear h2
    obtain ⟨r3, h3⟩ : ∃ r3 : Bool, r3 = decide ((∀ x ∈ bytesOf a3_0, Url.alnum x = true) ∧ 0 < a3_0.size ∧ a3_0.size ≤ 100) := ⟨_, rfl⟩
    have HN := Lib.hid (fun W => laws_urlName.calls a3_0 r3 W (by unfold laws_urlName.f; rw [if_pos g3, h3]))
    cases r3
    · clear h3 hho
      go_enter Tryd.func10, Tryd.ntmps10
      go_wp2_with (first | (go_at_call 29; (with_reducible refine (HZ.out _).mono ?_); rintro e w1 ⟨rfl, hb⟩; have HB1 := Lib.hid (HB0.out.trans (hb.mono HB0.out.size)); clear hb; obtain ⟨ya1, yb1⟩ := HX.out _ HB1.out) | (go_at_call 30; (with_reducible refine (HH.out _).mono ?_); rintro e w2 ⟨rfl, hb⟩; have HB2 := Lib.hid (HB1.out.trans (hb.mono HB1.out.size)); clear hb; obtain ⟨ya2, yb2⟩ := HX.out _ HB2.out) | (go_at_call 18; (with_reducible refine (HS.out _).mono ?_); rintro e w3 ⟨rfl, n3, rfl⟩; have HB3 := Lib.hid ((HB2.out.alloc HB2.out.size (.cells #[.string a1, .string a2, .string a3_1] 9)).trans ((bl_drewN (w2.alloc (.cells #[.string a1, .string a2, .string a3_1] 9)) n3).mono (HB2.out.alloc HB2.out.size (.cells #[.string a1, .string a2, .string a3_1] 9)).size)); obtain ⟨ya3, yb3⟩ := HX.out _ HB3.out) | (go_at_call 31; (with_reducible refine (HN.out _).mono ?_); rintro e w4 ⟨rfl, hb⟩; have HB4 := Lib.hid (HB3.out.trans (hb.mono HB3.out.size)); clear hb; obtain ⟨ya4, yb4⟩ := HX.out _ HB4.out) | (go_at_call 27; (with_reducible refine (urlAwake_calls _ (HTu.out _ HB4.out)).mono ?_); rintro e w9 ⟨rfl, hb⟩; have HB9 := Lib.hid (HB4.out.trans (hb.mono HB4.out.size)); clear hb))
      go_ret
      exact ⟨rfl, below_trans_alloc HB9.out⟩
    obtain ⟨hna, hn0, hn1⟩ := of_decide_eq_true h3.symm
    clear h3
    obtain ⟨r4, hvis, hpr⟩ := urlParts_calls a3_1 (by omega)
    have HPr := Lib.hid hpr
    clear hpr
    cases r4
    · clear hvis hho hna
      go_enter Tryd.func10, Tryd.ntmps10
      go_wp2_with (first | (go_at_call 29; (with_reducible refine (HZ.out _).mono ?_); rintro e w1 ⟨rfl, hb⟩; have HB1 := Lib.hid (HB0.out.trans (hb.mono HB0.out.size)); clear hb; obtain ⟨ya1, yb1⟩ := HX.out _ HB1.out) | (go_at_call 30; (with_reducible refine (HH.out _).mono ?_); rintro e w2 ⟨rfl, hb⟩; have HB2 := Lib.hid (HB1.out.trans (hb.mono HB1.out.size)); clear hb; obtain ⟨ya2, yb2⟩ := HX.out _ HB2.out) | (go_at_call 18; (with_reducible refine (HS.out _).mono ?_); rintro e w3 ⟨rfl, n3, rfl⟩; have HB3 := Lib.hid ((HB2.out.alloc HB2.out.size (.cells #[.string a1, .string a2, .string a3_1] 9)).trans ((bl_drewN (w2.alloc (.cells #[.string a1, .string a2, .string a3_1] 9)) n3).mono (HB2.out.alloc HB2.out.size (.cells #[.string a1, .string a2, .string a3_1] 9)).size)); obtain ⟨ya3, yb3⟩ := HX.out _ HB3.out) | (go_at_call 31; (with_reducible refine (HN.out _).mono ?_); rintro e w4 ⟨rfl, hb⟩; have HB4 := Lib.hid (HB3.out.trans (hb.mono HB3.out.size)); clear hb; obtain ⟨ya4, yb4⟩ := HX.out _ HB4.out) | (go_at_call 32; (with_reducible refine (HPr.out _).mono ?_); rintro e w5 ⟨rfl, hb⟩; have HB5 := Lib.hid (HB4.out.trans (hb.mono HB4.out.size)); clear hb; obtain ⟨ya5, yb5⟩ := HX.out _ HB5.out) | (go_at_call 27; (with_reducible refine (urlAwake_calls _ (HTu.out _ HB5.out)).mono ?_); rintro e w9 ⟨rfl, hb⟩; have HB9 := Lib.hid (HB5.out.trans (hb.mono HB5.out.size)); clear hb))
      go_ret
      exact ⟨rfl, below_trans_alloc HB9.out⟩
    have hv := hvis rfl
    clear hvis
    have e1521 : strconv_Itoa.f 1521 = some ⟨#[49, 53, 50, 49]⟩ := by decide +kernel
    have ze : (⟨#[]⟩ : ByteArray).size = 0 := rfl
    have z15 : (⟨#[49, 53, 50, 49]⟩ : ByteArray).size = 4 := rfl
    have hu := Url.esc_le a2 k2
    have hs := Url.esc_le a1 k1
    have hp := Url.esc_le ⟨#[]⟩ (by omega)
    have pu : url_PathEscape.f a2 = some (strOfNums (Url.escL 2 (bytesOf a2))) := Url.path_f a2 (by omega)
    have ps : url_PathEscape.f a1 = some (strOfNums (Url.escL 2 (bytesOf a1))) := Url.path_f a1 (by omega)
    have pp : url_PathEscape.f ⟨#[]⟩ = some (strOfNums (Url.escL 2 (bytesOf ⟨#[]⟩))) := Url.path_f ⟨#[]⟩ (by omega)
    have cu : spec_ConfigPath.f a2 = some (strOfNums (Url.escL 2 (bytesOf a2))) := by unfold spec_ConfigPath.f; exact if_pos (by omega)
    have cs : spec_ConfigPath.f a1 = some (strOfNums (Url.escL 2 (bytesOf a1))) := by unfold spec_ConfigPath.f; exact if_pos (by omega)
    have cp : spec_ConfigPath.f ⟨#[]⟩ = some (strOfNums (Url.escL 2 (bytesOf ⟨#[]⟩))) := by unfold spec_ConfigPath.f; exact if_pos (by omega)
    generalize strOfNums (Url.escL 2 (bytesOf a2)) = u at *
    generalize strOfNums (Url.escL 2 (bytesOf a1)) = s at *
    generalize strOfNums (Url.escL 2 (bytesOf ⟨#[]⟩)) = p at *
    have hj := Url.host_join a0 ⟨#[49, 53, 50, 49]⟩ hho (by omega) (by omega)
    have hjs : ((a0 ++ (⟨#[58]⟩ : ByteArray)) ++ (⟨#[49, 53, 50, 49]⟩ : ByteArray)).size ≤ 105 := by
      rw [ByteArray.size_append, ByteArray.size_append]
      have : (⟨#[58]⟩ : ByteArray).size = 1 := rfl
      omega
    have HHd := Lib.hid (fun W hT => ConfigHead_calls a0 1521 a1 a2 ⟨#[]⟩ u p ⟨#[49, 53, 50, 49]⟩ s W cu cp e1521 cs (by omega) (by omega) (by omega) (by omega) (by omega) hT)
    have hparts : Url.parts a0 1521 a1 a2 ⟨#[]⟩ u p ⟨#[49, 53, 50, 49]⟩ ((a0 ++ (⟨#[58]⟩ : ByteArray)) ++ (⟨#[49, 53, 50, 49]⟩ : ByteArray)) s := ⟨pu, pp, e1521, hj, ps, by omega, by omega, by omega, by omega⟩
    generalize ((a0 ++ (⟨#[58]⟩ : ByteArray)) ++ (⟨#[49, 53, 50, 49]⟩ : ByteArray)) = ho at *
    have hdz : (Url.head u p ho s).size ≤ 100000 := by
      unfold Url.head
      simp only [ByteArray.size_append]
      have a1 : (⟨#[111, 114, 97, 99, 108, 101, 58, 47, 47]⟩ : ByteArray).size = 9 := rfl
      have a2 : (⟨#[58]⟩ : ByteArray).size = 1 := rfl
      have a3 : (⟨#[64]⟩ : ByteArray).size = 1 := rfl
      have a5 : (⟨#[47]⟩ : ByteArray).size = 1 := rfl
      omega
    have hop := Url.opts_of a3_0 a3_1 hn1 k4 (Url.name_ascii a3_0 hna) hv
    have HOp := Lib.hid (fun W => ConfigOption_calls a3_0 a3_1 W hn1 k4)
    have hout := Url.opt_out (Url.head u p ho s) a3_0 a3_1 (Url.isSrv a3_0) hv hdz hn1 k4
    have hLm := Url.optsB_mem a3_0 a3_1 (Url.isSrv a3_0) hn1 k4
    have hLl := Url.optsB_len a3_0 a3_1 (Url.isSrv a3_0) k4
    generalize Url.optsB a3_0 (Url.isSrv a3_0) a3_1 = L at *
    have HUr := Lib.hid (fun (ha : ∀ o ∈ L, ∀ b ∈ o.data.toList, b ≠ 38) (gg : Nat) (W : World) hg h0 h1 hT => Url_one a0 1521 a1 a2 ⟨#[]⟩ u p ⟨#[49, 53, 50, 49]⟩ ho s a3_0 a3_1 (Url.wantA 0 (Url.head u p ho s) L) (Url.psOf a3_1) (Url.isSrv a3_0) gg 1 W hparts hdz hop (hout ha) hg h0 h1 hT)
    generalize Url.head u p ho s = hd at *
    have HLm := Lib.hid hLm
    clear hout hparts hop hj pu ps pp cu cs cp hu hs hp e1521 hho hna hv hLm hjs ze z15
    go_enter Tryd.func10, Tryd.ntmps10
    go_wp2_with (first | (go_at_call 29; (with_reducible refine (HZ.out _).mono ?_); rintro e w1 ⟨rfl, hb⟩; have HB1 := Lib.hid (HB0.out.trans (hb.mono HB0.out.size)); clear hb; obtain ⟨ya1, yb1⟩ := HX.out _ HB1.out) | (go_at_call 30; (with_reducible refine (HH.out _).mono ?_); rintro e w2 ⟨rfl, hb⟩; have HB2 := Lib.hid (HB1.out.trans (hb.mono HB1.out.size)); clear hb; obtain ⟨ya2, yb2⟩ := HX.out _ HB2.out) | (go_at_call 18; (with_reducible refine (HS.out _).mono ?_); rintro e w3 ⟨rfl, n3, rfl⟩; have HB3 := Lib.hid ((HB2.out.alloc HB2.out.size (.cells #[.string a1, .string a2, .string a3_1] 9)).trans ((bl_drewN (w2.alloc (.cells #[.string a1, .string a2, .string a3_1] 9)) n3).mono (HB2.out.alloc HB2.out.size (.cells #[.string a1, .string a2, .string a3_1] 9)).size)); obtain ⟨ya3, yb3⟩ := HX.out _ HB3.out) | (go_at_call 31; (with_reducible refine (HN.out _).mono ?_); rintro e w4 ⟨rfl, hb⟩; have HB4 := Lib.hid (HB3.out.trans (hb.mono HB3.out.size)); clear hb; obtain ⟨ya4, yb4⟩ := HX.out _ HB4.out) | (go_at_call 32; (with_reducible refine (HPr.out _).mono ?_); rintro e w5 ⟨rfl, hb⟩; have HB5 := Lib.hid (HB4.out.trans (hb.mono HB4.out.size)); clear hb; obtain ⟨ya5, yb5⟩ := HX.out _ HB5.out) | (go_at_call 33; (with_reducible refine (HHd.out _ (HTt.out _ HB5.out)).mono ?_); rintro e w6 ⟨rfl, hb⟩; have HB6 := Lib.hid (HB5.out.trans (hb.mono HB5.out.size)); clear hb; obtain ⟨ya6, yb6⟩ := HX.out _ HB6.out) | (go_at_call 34; (with_reducible refine (HOp.out _).mono ?_); rintro e w7 ⟨v, rfl, hR, hb⟩; obtain ⟨A, c7, rfl, hle, hC⟩ := Kd.R_reads hR; have HCn := Lib.hid hC; have HB7 := Lib.hid (HB6.out.trans (hb.mono HB6.out.size)); clear hR hC hb hle))
    clear HZ HH HS HN HPr HHd HOp HB1 HB2 HB3 HB4 HB5
    have HW0 : Hid (Url.wantA 0 hd (L.take 0) = hd) := Lib.hid rfl
    go_loopw [9, 64] (fun v9 v64 wr => ∃ i : Nat, i ≤ L.length ∧ v64 = .int .i64 i ∧ v9 = .string (Url.wantA 0 hd (L.take i)) ∧ Hid (Below w7.heap.size w7 wr) ∧ Hid (∀ j : Nat, j < i → ∀ b ∈ (rdOf ByteArray.empty L (j : Int)).data.toList, b ≠ 38)) (fun _ v64 _ => L.length - (intOf v64).toNat)
    case atStart => exact ⟨0, Nat.zero_le _, rfl, by rw [HW0.out], Lib.hid (Below.refl _ _), Lib.hid fun j hj => absurd hj (Nat.not_lt_zero j)⟩
    case round =>
      obtain ⟨i, hi, rfl, rfl, HBl, HA⟩ := hrel
      have HB8 := Lib.hid (HB7.out.trans (HBl.out.mono HB7.out.size))
      by_cases hlt : i < L.length
      · obtain ⟨ad, had, hx⟩ := Kd.at_string (Kd.C_below HCn.out HBl.out) (i : Int) (by omega) (by omega)
        subst had
        rw [Int.toNat_natCast] at hx
        have HTk := Lib.hid (Url.want_step hd L i hlt)
        have hsz1 := (HLm.out _ (Url.rd_mem L i hlt)).1
        have hwz : (Url.wantA 0 hd (L.take i)).size ≤ 1000000 := by
          have := Url.wantA_size (L.take i) 0 hd (fun o ho => (HLm.out o (List.mem_of_mem_take ho)).1)
          rw [List.length_take] at this
          omega
        have HA2 : Hid ((∀ b ∈ (rdOf ByteArray.empty L (i : Int)).data.toList, b ≠ 38) → ∀ j : Nat, j < i + 1 → ∀ b ∈ (rdOf ByteArray.empty L (j : Int)).data.toList, b ≠ 38) := Lib.hid fun e j hj => by
          by_cases h : j < i
          · exact HA.out j h
          · obtain rfl : j = i := by omega
            exact e
        generalize rdOf ByteArray.empty L (i : Int) = q at *
        generalize Url.wantA 0 hd (L.take i) = wt at *
        obtain ⟨w2, c2, cs2, hcv, hsc, hB2, hblk, hcell⟩ := conv_row (P := Tryd.prog) wr 9 43 Tryd.underlying9 Tryd.underlying43 Tryd.underlying5 q
        have hlen := bytesOf_length q
        have hbyt := byt_bytesOf q
        have HMem : Hid ((∀ x ∈ bytesOf q, x ≠ 38) → ∀ b ∈ q.data.toList, b ≠ 38) := Lib.hid fun h b hb e => by
          refine h (b.toNat : Int) (by unfold bytesOf; exact List.mem_map_of_mem hb) ?_
          rw [e]; rfl
        obtain ⟨l, hl⟩ : ∃ l, l = bytesOf q := ⟨_, rfl⟩
        rw [← hl] at hlen hbyt hcell HMem
        clear hl
        obtain ⟨n, hn⟩ : ∃ n, n = q.size := ⟨_, rfl⟩
        have hszn : n ≤ 1001 := by rw [hn]; exact hsz1
        rw [← hn] at hlen hcell hsc hcv
        have HB2 := Lib.hid hB2
        have HC := Lib.hid (fun j hj => (xb_cell hblk j).trans (hcell j hj))
        have HL := Lib.hid hlen
        have HY := Lib.hid hbyt
        have HB3 := Lib.hid (HB8.out.trans (hB2.mono HB8.out.size))
        clear hB2 hblk hcell hbyt hlen hn
        go_wp2
        clear hcv
        go_loop [72] (fun v72 => ∃ j : Nat, j ≤ n ∧ v72 = .int .i64 j ∧ Hid (∀ k, k < j → l.getD k 0 ≠ 38)) (fun v72 => n - (intOf v72).toNat)
        case atStart => exact ⟨0, Nat.zero_le _, rfl, Lib.hid fun j hj => absurd hj (Nat.not_lt_zero j)⟩
        case round =>
          obtain ⟨j, hj, rfl, HJ⟩ := hrel
          by_cases hlt2 : j < n
          · have x0 := HC.out j hlt2
            have HLt2 := Lib.hid hlt2
            have HNx : Hid (l.getD j 0 ≠ 38 → ∀ k, k < j + 1 → l.getD k 0 ≠ 38) := Lib.hid fun e k hk => by
              by_cases h : k < j
              · exact HJ.out k h
              · obtain rfl : k = j := by omega
                exact e
            generalize l.getD j 0 = x at *
            by_cases e1 : x = 38
            · subst e1
              go_wp2_with (first | (go_at_call 27; (with_reducible refine (urlAwake_calls _ (HTu.out _ HB3.out)).mono ?_); rintro e w9 ⟨rfl, hb⟩; have HB9 := Lib.hid (HB3.out.trans (hb.mono HB3.out.size)); clear hb))
              go_ret
              exact ⟨rfl, below_trans_alloc HB9.out⟩
            · have d1 : (x == 38) = false := beq_eq_false_iff_ne.2 e1
              by_cases e2 : x = 63
              · subst e2
                go_wp2_with (first | (go_at_call 27; (with_reducible refine (urlAwake_calls _ (HTu.out _ HB3.out)).mono ?_); rintro e w9 ⟨rfl, hb⟩; have HB9 := Lib.hid (HB3.out.trans (hb.mono HB3.out.size)); clear hb))
                go_ret
                exact ⟨rfl, below_trans_alloc HB9.out⟩
              · have d2 : (x == 63) = false := beq_eq_false_iff_ne.2 e2
                have HG := Lib.hid (HNx.out e1)
                clear e1 e2
                go_wp2
                go_round
                case rel => exact ⟨j + 1, by have := HLt2.out; omega, by go_num, HG⟩
                case measure => have := HLt2.out; simp [intOf]; omega
          · obtain rfl : j = n := by omega
            have HG := Lib.hid (HA2.out (HMem.out fun x hx => by
              obtain ⟨k, hk, rfl⟩ := List.getElem_of_mem hx
              have := HJ.out k (by rw [← HL.out]; exact hk)
              rwa [List.getD_eq_getElem?_getD, List.getElem?_eq_getElem hk] at this))
            have s63 : (⟨#[63]⟩ : ByteArray).size = 1 := rfl
            have s38 : (⟨#[38]⟩ : ByteArray).size = 1 := rfl
            have HBr := Lib.hid (HBl.out.trans (HB2.out.mono HBl.out.size))
            have HLt := Lib.hid hlt
            by_cases i0 : i = 0
            · have HSep : Hid (Url.sepN i = ⟨#[63]⟩) := Lib.hid (by unfold Url.sepN; exact if_pos i0)
              have hmin : min (i : Int) 1 = 0 := by omega
              clear i0
              go_wp2
              go_roundw
              case rel => exact ⟨i + 1, by have := HLt.out; omega, by go_num, by rw [HTk.out, HSep.out], Lib.hid (HBr.out.alloc HBr.out.size _), HG⟩
              case measure => have := HLt.out; simp [intOf]; omega
            · have HSep : Hid (Url.sepN i = ⟨#[38]⟩) := Lib.hid (by unfold Url.sepN; exact if_neg i0)
              have hmin : min (i : Int) 1 = 1 := by omega
              go_wp2
              go_roundw
              case rel => exact ⟨i + 1, by omega, by go_num, by rw [HTk.out, HSep.out], Lib.hid (HBr.out.alloc HBr.out.size _), HG⟩
              case measure => simp [intOf]; omega
      · obtain rfl : i = L.length := by omega
        have hamp : ∀ o ∈ L, ∀ b ∈ o.data.toList, b ≠ 38 := fun o ho b hb => by
          obtain ⟨k, hk, rfl⟩ := List.getElem_of_mem ho
          refine HA.out k hk b ?_
          unfold rdOf
          rw [Int.toNat_natCast, List.getD_eq_getElem?_getD, List.getElem?_eq_getElem hk]
          exact hb
        have HU := Lib.hid (HUr.out hamp)
        rw [List.take_length]
        generalize Url.wantA 0 hd L = wt at *
        clear hamp HUr
        obtain ⟨ya, yb⟩ := HX.out _ HB8.out
        have HB10 := Lib.hid (HB8.out.alloc HB8.out.size (.cells #[.string a3_0, .string a3_1] 50))
        have HUc := Lib.hid (HU.out wr.heap.size (wr.alloc (.cells #[.string a3_0, .string a3_1] 50)) (by rw [World.size_alloc]; omega) (by rw [xb_cell (xb_new _ _)]; rfl) (by rw [xb_cell (xb_new _ _)]; rfl) (HTa.out _ HB10.out))
        go_wp2_with (first | (go_at_call 28; (with_reducible refine (HUc.out).mono ?_); rintro e w11 ⟨rfl, hb⟩; have HB11 := Lib.hid (HB10.out.trans (hb.mono HB10.out.size)); clear hb) | (go_at_call 27; (with_reducible refine (urlAwake_calls _ (HTu.out _ HB11.out)).mono ?_); rintro e w9 ⟨rfl, hb⟩; have HB9 := Lib.hid (HB11.out.trans (hb.mono HB11.out.size)); clear hb))
        go_ret
        exact ⟨rfl, below_trans_alloc HB9.out⟩
  · cases h
end Go.Proofs.YtipkpgmgjdfgoaaDoor.X
namespace Go.Proofs.YtipkpgmgjdfgoaaDoor.Pure
open Go
theorem FnUrlOption (a0 : ByteArray) (w0 : a0.size ≤ 140737488351232) (a1 : ByteArray) (w1 : a1.size ≤ 140737488351232) (a2 : ByteArray) (w2 : a2.size ≤ 140737488351232) (a3 a4 : ByteArray) (w3 : (a3.size : Int) ≤ IntKind.i64.max) (w4 : (a4.size : Int) ≤ IntKind.i64.max) : X.laws_FnUrlOption.f a0 a1 a2 a3 a4 = some true := by
  unfold X.laws_FnUrlOption.f
  have e : IntKind.i64.max = 9223372036854775807 := by decide
  rw [e] at w3 w4
  rw [if_pos ⟨w0, w1, w2, by omega, by omega⟩]
end Go.Proofs.YtipkpgmgjdfgoaaDoor.Pure
