/- laws.urlParts, spec.ConfigPath, spec.ConfigHead, spec.ConfigOption. -/
import Derived.Test.YtipkpgmgjdfgoaaDoorUw
namespace Go.Proofs.YtipkpgmgjdfgoaaDoor.X
open Go.RowKit Go.Proofs.YtipkpgmgjdfgoaaDoorW.PrintWords Go.Proofs.YtipkpgmgjdfgoaaDoorW.PrintMore
attribute [local go_sem] setCell_drewN alloc_drewN
set_option linter.unusedVariables false
set_option linter.unusedSimpArgs false
namespace Url
theorem idx_total (L : List ByteArray) (v : ByteArray) (hL : L.length ≤ 1000000000) : ∀ (k i : Nat), i ≤ L.length → L.length - i < k → ∃ r, ZU.slices_Index_string_string.l0 k L v (L.length : Int) (i : Int) = some r := by
  intro k
  induction k with
  | zero => intro i _ h; omega
  | succ k ih =>
    intro i hi hk
    have e2 : wrap64 ((i : Int) + 1) = ((i + 1 : Nat) : Int) := by unfold wrap64; omega
    simp only [ZU.slices_Index_string_string.l0, e2]
    by_cases hlt : i < L.length
    · rw [if_pos (by omega), if_pos (by omega), if_pos (by omega)]
      split
      · exact ⟨_, rfl⟩
      · exact ih (i + 1) (by omega) (by omega)
    · rw [if_neg (by omega)]
      exact ⟨_, rfl⟩
theorem has_total (L : List ByteArray) (v : ByteArray) (hL : L.length ≤ 1000000000) : ∃ k r, ZU.slices_Contains_string_string.f k L v = some r := by
  obtain ⟨r, hr⟩ := idx_total L v hL (L.length + 1) 0 (Nat.zero_le _) (by omega)
  exact ⟨L.length + 1, decide (r ≥ 0), by unfold ZU.slices_Contains_string_string.f ZU.slices_Index_string_string.f; rw [show ((0 : Nat) : Int) = 0 from rfl] at hr; rw [hr]; rfl⟩
end Url
set_option maxHeartbeats 8000000 in
set_option maxRecDepth 100000 in
theorem urlParts_calls (a0 : ByteArray) (hsz : a0.size ≤ 1000000) :
    ∃ r : Bool, (r = true → Url.Vis a0.data.toList) ∧ ∀ w : World, Calls Tryd.prog 32 #[.string a0] w fun e w' => e = .returned (.bool r) ∧ Below w.heap.size w w' := by
  have hpl : ((Url.splitL a0.data.toList).map fun p => Url.mkB (Url.trim32 p)).length ≤ 1000001 := by
    rw [List.length_map]
    have := Url.splitL_len a0.data.toList
    rw [data_length] at this
    omega
  obtain ⟨kc, rc, hrc⟩ := Url.has_total ((Url.splitL a0.data.toList).map fun p => Url.mkB (Url.trim32 p)) ⟨#[]⟩ (by omega)
  have hvis : (∀ x ∈ bytesOf a0, 32 ≤ x ∧ x < 127) → Url.Vis a0.data.toList := fun h b hb => by
    have := h (b.toNat : Int) (by unfold bytesOf; exact List.mem_map_of_mem hb)
    omega
  obtain ⟨r, hr⟩ : ∃ r : Bool, r = (decide (∀ x ∈ bytesOf a0, 32 ≤ x ∧ x < 127) && !rc) := ⟨_, rfl⟩
  refine ⟨r, fun h => hvis ?_, fun w => ?_⟩
  · rw [hr, Bool.and_eq_true, decide_eq_true_eq] at h
    exact h.1
  clear hvis
  have HF : Hid (¬ (∀ x ∈ bytesOf a0, 32 ≤ x ∧ x < 127) → r = false) := Lib.hid fun h => by rw [hr, decide_eq_false h, Bool.false_and]
  have HTr : Hid ((∀ x ∈ bytesOf a0, 32 ≤ x ∧ x < 127) → r = !rc) := Lib.hid fun h => by rw [hr, decide_eq_true h, Bool.true_and]
  clear hr
  obtain ⟨w2, c, cs, hcv, hsc, hB2, hblk, hcell⟩ := conv_row (P := Tryd.prog) w 9 43 Tryd.underlying9 Tryd.underlying43 Tryd.underlying5 a0
  have HPa := Lib.hid (fun W => spec_ConfigParts.calls a0 _ W (by unfold spec_ConfigParts.f; exact if_pos hsz))
  have hlen := bytesOf_length a0
  have hbyt := byt_bytesOf a0
  obtain ⟨l, hl⟩ : ∃ l, l = bytesOf a0 := ⟨_, rfl⟩
  rw [← hl] at hlen hbyt hcell HF HTr
  generalize ((Url.splitL a0.data.toList).map fun p => Url.mkB (Url.trim32 p)) = L at *
  have HRc := Lib.hid (fun (A : Option Addr) (c : Nat) (W : World) hC hc => ZU.slices_Contains_string_string.calls kc A c L ⟨#[]⟩ rc W hC hc hrc)
  clear hl hrc
  obtain ⟨n, hn⟩ : ∃ n, n = a0.size := ⟨_, rfl⟩
  rw [← hn] at hlen hcell hsc hsz hcv
  have HN := Lib.hid hn.symm
  have HB := Lib.hid hB2
  have HC := Lib.hid (fun i hi => (xb_cell hblk i).trans (hcell i hi))
  have HL := Lib.hid hlen
  have HY := Lib.hid hbyt
  clear hB2 hblk hcell hbyt hlen hn
  go_enter Tryd.func32, Tryd.ntmps32
  go_wp2
  go_loop [8] (fun v8 => ∃ i : Nat, i ≤ n ∧ v8 = .int .i64 i ∧ Hid (∀ j, j < i → 32 ≤ l.getD j 0 ∧ l.getD j 0 < 127)) (fun v8 => n - (intOf v8).toNat)
  case atStart => exact ⟨0, Nat.zero_le _, rfl, Lib.hid fun j hj => absurd hj (Nat.not_lt_zero j)⟩
  case round =>
    obtain ⟨i, hi, rfl, HA⟩ := hrel
    by_cases hlt : i < n
    · have x0 := HC.out i hlt
      have hx := HY.out.get i
      have HNx : Hid (32 ≤ l.getD i 0 ∧ l.getD i 0 < 127 → ∀ j, j < i + 1 → 32 ≤ l.getD j 0 ∧ l.getD j 0 < 127) := Lib.hid fun e j hj => by
        by_cases h : j < i
        · exact HA.out j h
        · obtain rfl : j = i := by omega
          exact e
      have HNo : Hid (¬ (32 ≤ l.getD i 0 ∧ l.getD i 0 < 127) → r = false) := Lib.hid fun h => HF.out fun a => h (a _ (by
        rw [List.getD_eq_getElem?_getD, List.getElem?_eq_getElem (by rw [HL.out]; exact hlt)]
        exact List.getElem_mem _))
      generalize l.getD i 0 = x at *
      by_cases k1 : x < 32
      · obtain rfl := HNo.out (by omega)
        have d0 : decide (x < 32) = true := decide_eq_true k1
        go_wp2
        go_ret
        exact ⟨rfl, HB.out⟩
      · have d0 : decide (x < 32) = false := decide_eq_false k1
        by_cases k2 : 127 ≤ x
        · obtain rfl := HNo.out (by omega)
          have d1 : decide (x ≥ 127) = true := decide_eq_true k2
          go_wp2
          go_ret
          exact ⟨rfl, HB.out⟩
        · have d1 : decide (x ≥ 127) = false := decide_eq_false (by omega)
          have HG := Lib.hid (HNx.out ⟨by omega, by omega⟩)
          clear k1 k2
          go_wp2
          go_round
          case rel => exact ⟨i + 1, by omega, by go_num, HG⟩
          case measure => simp [intOf]; omega
    · obtain rfl : i = n := by omega
      obtain rfl := HTr.out fun x hx => by
        obtain ⟨j, hj, rfl⟩ := List.getElem_of_mem hx
        have := HA.out j (by rw [← HL.out]; exact hj)
        rwa [List.getD_eq_getElem?_getD, List.getElem?_eq_getElem hj] at this
      go_wp2_with (first | (go_at_call 53; (with_reducible refine (HPa.out _).mono ?_); rintro e w3 ⟨v, rfl, hR, hb⟩; obtain ⟨A, c3, rfl, hle, hC⟩ := Kd.R_reads hR; have HCn := Lib.hid (HRc.out A c3 w3 hC hle); have HB3 := Lib.hid (HB.out.trans (hb.mono HB.out.size)); clear hR hC hb hle) | (go_at_call 52; (with_reducible refine HCn.out.mono ?_); rintro e w4 ⟨rfl, n4, rfl⟩))
      go_ret
      exact ⟨rfl, HB3.out.trans ((bl_drewN _ n4).mono HB3.out.size)⟩
def spec_ConfigPath.f (a0 : ByteArray) : Option ByteArray := if a0.size ≤ 300000 then some (strOfNums (Url.escL 2 (bytesOf a0))) else none
set_option maxHeartbeats 4000000 in
set_option maxRecDepth 100000 in
theorem spec_ConfigPath.calls (a0 : ByteArray) (r : ByteArray) (w : World) (h : spec_ConfigPath.f a0 = some r) :
    Calls Tryd.prog 54 #[.string a0] w fun e w' => e = .returned (.string r) ∧ Below w.heap.size w w' := by
  unfold spec_ConfigPath.f at h
  split at h
  · rename_i hsz
    obtain rfl := Option.some.inj h
    clear h
    have hCe := Lib.hid (spec_configEscaped.calls a0 ⟨#[36, 38, 43, 61, 58, 64]⟩ _ w (by unfold spec_configEscaped.f; exact if_pos ⟨by omega, by decide, by decide⟩))
    rw [Url.ce_path _ (byt_bytesOf a0)] at hCe
    generalize strOfNums (Url.escL 2 (bytesOf a0)) = s at *
    go_enter Tryd.func54, Tryd.ntmps54
    go_wp2_with (go_at_call 68; (with_reducible refine hCe.out.mono ?_); rintro e w1 ⟨rfl, HB1⟩)
    go_ret
    exact ⟨rfl, HB1⟩
  · cases h
set_option maxHeartbeats 4000000 in
set_option maxRecDepth 100000 in
/-- An address without options. -/
theorem ConfigHead_calls (server : ByteArray) (port : Int) (service user password u p t s : ByteArray) (w : World) (h1 : spec_ConfigPath.f user = some u) (h2 : spec_ConfigPath.f password = some p) (h3 : strconv_Itoa.f port = some t) (h4 : spec_ConfigPath.f service = some s)
    (z0 : server.size ≤ 100000) (z1 : u.size ≤ 1000000) (z2 : p.size ≤ 1000000) (z3 : t.size ≤ 100000) (z4 : s.size ≤ 1000000) (htab : Tab w) :
    Calls Tryd.prog 33 #[.string server, .int .i64 port, .string service, .string user, .string password] w fun e w' => e = .returned (.string (Url.head u p ((server ++ (⟨#[58]⟩ : ByteArray)) ++ t) s)) ∧ Below w.heap.size w w' := by
  have HU := Lib.hid (fun W => spec_ConfigPath.calls user u W h1)
  have HP := Lib.hid (fun W => spec_ConfigPath.calls password p W h2)
  have HS := Lib.hid (fun W => spec_ConfigPath.calls service s W h4)
  have HI := Lib.hid (fun W (hT : Tab W) => strconv_Itoa.calls port t W h3 hT)
  have HT := Lib.hid (fun W (hb : Below w.heap.size w W) => (tab_all htab W hb : Tab W))
  clear h1 h2 h3 h4 htab
  go_enter Tryd.func33, Tryd.ntmps33
  go_wp2_with (first | (go_at_call 54; (with_reducible refine (HU.out _).mono ?_); rintro e w1 ⟨rfl, hb⟩; have HB1 := Lib.hid hb; clear hb) | (go_at_call 54; (with_reducible refine (HP.out _).mono ?_); rintro e w2 ⟨rfl, hb⟩; have HB2 := Lib.hid (HB1.out.trans (hb.mono HB1.out.size)); clear hb) | (go_at_call 49; (with_reducible refine (HI.out _ (HT.out _ HB2.out)).mono ?_); rintro e w3 ⟨rfl, hb⟩; have HB3 := Lib.hid (HB2.out.trans (hb.mono HB2.out.size)); clear hb) | (go_at_call 54; (with_reducible refine (HS.out _).mono ?_); rintro e w4 ⟨rfl, hb⟩; have HB4 := Lib.hid (HB3.out.trans (hb.mono HB3.out.size)); clear hb))
  go_ret
  exact ⟨congrArg (fun x => Ending.returned (Value.string x)) (by unfold Url.head; simp only [ByteArray.append_assoc]), HB4.out⟩
theorem below_trans_alloc {w w3 : World} {o : Obj} (h : Below (w.alloc o).heap.size (w.alloc o) w3) : Below w.heap.size w w3 := ((Below.refl _ _).alloc (Nat.le_refl _) o).trans (h.mono (by rw [World.size_alloc]; omega))
namespace Url
def lowB (b : UInt8) : UInt8 := UInt8.ofNat (lowc (b.toNat : Int)).toNat
theorem up_low0 : ∀ n : Fin 26, ∀ b : Fin 256, (lowB (UInt8.ofNat (65 + n.val)) = lowB (UInt8.ofNat b.val)) ↔ (Lib.upperB (UInt8.ofNat b.val) = UInt8.ofNat (65 + n.val)) := by decide +kernel
theorem up_low (c b : UInt8) (h : 65 ≤ c.toNat ∧ c.toNat ≤ 90) : lowB c = lowB b ↔ Lib.upperB b = c := by
  have := up_low0 ⟨c.toNat - 65, by omega⟩ ⟨b.toNat, b.toNat_lt⟩
  simp only [show 65 + (c.toNat - 65) = c.toNat by omega, UInt8.ofNat_toNat] at this
  exact this
theorem low_iff : ∀ N s : List UInt8, (∀ c ∈ N, 65 ≤ c.toNat ∧ c.toNat ≤ 90) → (N.map lowB = s.map lowB ↔ Lib.toUpperA s = N)
  | [], [], _ => by simp [Lib.toUpperA]
  | [], _ :: _, _ => by simp [Lib.toUpperA]
  | _ :: _, [], _ => by simp [Lib.toUpperA]
  | c :: N, b :: s, h => by
    have h1 := up_low c b (h c (by simp))
    have h2 := low_iff N s (fun x hx => h x (by simp [hx]))
    simp only [Lib.toUpperA, List.map_cons, List.cons.injEq] at h2 ⊢
    rw [h1, h2]
theorem low_str (s : ByteArray) : (strOfNums ((bytesOf s).map lowc)).toList = s.data.toList.map lowB := by
  rw [Go.ByteArray.toList_eq]
  unfold strOfNums bytesOf lowB
  simp
/-- Is the name that of a server, in letters of any case? -/
def isSrv (name : ByteArray) : Bool := decide (Lib.toUpperA name.data.toList = [83, 69, 82, 86, 69, 82])
theorem low_srv (name : ByteArray) : ((strOfNums ((bytesOf name).map lowc)).toList = ([115, 101, 114, 118, 101, 114] : List UInt8)) ↔ isSrv name = true := by
  rw [low_str]
  have h := low_iff [83, 69, 82, 86, 69, 82] name.data.toList (by decide)
  have e : ([83, 69, 82, 86, 69, 82] : List UInt8).map lowB = [115, 101, 114, 118, 101, 114] := by decide +kernel
  rw [e] at h
  unfold isSrv
  rw [decide_eq_true_iff, ← h]
  exact ⟨fun a => a.symm, fun a => a.symm⟩
theorem take_opt (name : ByteArray) (srv : Bool) (P : List ByteArray) (i : Nat) (h : i < P.length) (p : ByteArray) (hp : rdOf ⟨#[]⟩ P (i : Int) = p) : (P.take (i + 1)).map (optB name srv) = (P.take i).map (optB name srv) ++ [optB name srv p] := by
  have e : P[i] = p := by
    rw [← hp]
    unfold rdOf
    rw [Int.toNat_natCast, List.getD_eq_getElem?_getD, List.getElem?_eq_getElem h]
    rfl
  rw [List.take_succ_eq_append_getElem h, List.map_append, e]
  rfl
end Url
set_option maxHeartbeats 8000000 in
set_option maxRecDepth 100000 in
theorem ConfigOption_calls (name val : ByteArray) (w : World) (hk : name.size ≤ 100) (hv : val.size ≤ 300) :
    Calls Tryd.prog 34 #[.agg #[.string name, .string val]] w fun e w' => ∃ v, e = .returned v ∧ Kd.R Kd.string 9 w' w.heap.size (fun _ => True) v (Url.optsB name (Url.isSrv name) val) ∧ Below w.heap.size w w' := by
  have HPa := Lib.hid (fun W => spec_ConfigParts.calls val _ W (by unfold spec_ConfigParts.f; exact if_pos (by omega)))
  have hpz : ∀ p ∈ ((Url.splitL val.data.toList).map fun p => Url.mkB (Url.trim32 p)), p.size ≤ 300 := by
    intro p hp
    obtain ⟨q, hq, rfl⟩ := List.mem_map.1 hp
    rw [Url.mkB_size]
    have h1 := Url.trim32_le q
    have h2 := Url.splitL_mem _ q hq
    rw [data_length] at h2
    omega
  have hpl : ((Url.splitL val.data.toList).map fun p => Url.mkB (Url.trim32 p)).length ≤ 301 := by
    rw [List.length_map]
    have := Url.splitL_len val.data.toList
    rw [data_length] at this
    omega
  unfold Url.optsB
  generalize ((Url.splitL val.data.toList).map fun p => Url.mkB (Url.trim32 p)) = P at *
  have HLow := Lib.hid (fun W => spec_configLow.calls name _ W (by unfold spec_configLow.f; exact if_pos (by omega)))
  have hls := Url.low_srv name
  generalize strOfNums ((bytesOf name).map lowc) = low at *
  have HQu := Lib.hid (fun (p : ByteArray) (hp : p.size ≤ 300) W => spec_ConfigQuery.calls p _ W (by unfold spec_ConfigQuery.f; exact if_pos (by omega)))
  generalize Url.isSrv name = srv at *
  have q1 : (low.toList == ([115, 101, 114, 118, 101, 114] : List UInt8)) = srv := by rw [Bool.eq_iff_iff, beq_iff_eq]; exact hls
  have q2 : (low.toList != ([115, 101, 114, 118, 101, 114] : List UInt8)) = !srv := by rw [bne, q1]
  clear hls
  go_enter Tryd.func34, Tryd.ntmps34
  go_wp2_with (go_at_call 53; (with_reducible refine (HPa.out _).mono ?_); rintro e w3 ⟨v, rfl, hR, hb⟩; obtain ⟨A, c3, rfl, hle, hC⟩ := Kd.R_reads hR; have HCn := Lib.hid hC; have HB3 := Lib.hid hb; clear hR hC hb)
  have hsz3 := HB3.out.size
  rw [World.size_alloc] at hsz3
  have x0 : w3.cell? ⟨w.heap.size, 0, none⟩ = some (.string name) := (HB3.out.cell (by rw [World.size_alloc]; exact Nat.lt_succ_self _)).trans (by rw [xb_cell (xb_new _ _)]; rfl)
  have HBw := Lib.hid (below_trans_alloc HB3.out)
  have HPz := Lib.hid hpz
  have HX := Lib.hid x0
  have hz61 : (⟨#[61]⟩ : ByteArray).size = 1 := rfl
  clear hpz x0 HB3 hle HPa
  go_loopw [3, 10] (fun v3 v10 wr => ∃ i : Nat, i ≤ P.length ∧ v10 = .int .i64 i ∧ Hid (Kd.R Kd.string 9 wr w3.heap.size (fun _ => True) v3 ((P.take i).map (Url.optB name srv))) ∧ Hid (Below w3.heap.size w3 wr)) (fun _ v10 _ => P.length - (intOf v10).toNat)
  case atStart => exact ⟨0, Nat.zero_le _, rfl, Lib.hid (Kd.R_nil _ _ _ _ _), Lib.hid (Below.refl _ _)⟩
  case round =>
    obtain ⟨i, hi, rfl, HR, HBl⟩ := hrel
    by_cases hlt : i < P.length
    · obtain ⟨ad, had, hx⟩ := Kd.at_string (Kd.C_below HCn.out HBl.out) (i : Int) (by omega) (by omega)
      subst had
      rw [Int.toNat_natCast] at hx
      have y0 : wr.cell? ⟨w.heap.size, 0, none⟩ = some (.string name) := (HBl.out.cell (by show w.heap.size < _; omega)).trans HX.out
      have HTk := Lib.hid (Url.take_opt name srv P i hlt _ rfl)
      have hpsz : (rdOf ByteArray.empty P (i : Int)).size ≤ 300 := HPz.out _ (by
        unfold rdOf
        rw [Int.toNat_natCast, List.getD_eq_getElem?_getD, List.getElem?_eq_getElem hlt]
        exact List.getElem_mem _)
      change Hid (_ = _ ++ [Url.optB name srv (rdOf ByteArray.empty P (i : Int))]) at HTk
      generalize rdOf ByteArray.empty P (i : Int) = p at *
      have hal : ((P.take i).map (Url.optB name srv)).length ≤ 301 := by rw [List.length_map, List.length_take]; omega
      generalize (P.take i).map (Url.optB name srv) = acc at *
      cases srv
      · have hqs : (strOfNums (Url.cqL (bytesOf p))).size ≤ 900 := by
          have := Url.esc_size 32 (bytesOf p)
          rw [bytesOf_length] at this
          rw [Url.cq_query _ (byt_bytesOf p), Url.size_str]
          omega
        have HE : Hid (Url.optB name false p = (name ++ (⟨#[61]⟩ : ByteArray)) ++ strOfNums (Url.cqL (bytesOf p))) := Lib.hid rfl
        have HQp := Lib.hid (HQu.out p hpsz)
        generalize strOfNums (Url.cqL (bytesOf p)) = eq at *
        go_wp2_with (first | (go_at_call 46; (with_reducible refine (HLow.out _).mono ?_); rintro e wa ⟨rfl, hb⟩; have HBa := Lib.hid (HBl.out.trans (hb.mono HBl.out.size)); have HRa := Lib.hid (Kd.R_below HR.out hb); have ya := bl_cell hb y0; clear hb) | (go_at_call 55; (with_reducible refine (HQp.out _).mono ?_); rintro e wc ⟨rfl, hb⟩; have HBc := Lib.hid (HBa.out.trans (hb.mono HBa.out.size)); have HRc := Lib.hid (Kd.R_below HRa.out hb); have yc := bl_cell hb ya; clear hb) | ((with_reducible refine gate_builtin (b := .append) (xs := #[.tmp 20, .tmp 26]) rfl ?_); at_builtin; refine Kd.R_append Kd.string (w0 := w3) w3.heap.size rfl (.tmp 20) (.tmp 26) 41 9 (.string ⟨#[]⟩) 16 rfl Tryd.underlying41 ZU.info9 rfl (by decide) (by omega) u3 acc ((name ++ (⟨#[61]⟩ : ByteArray)) ++ eq) [.string ((name ++ (⟨#[61]⟩ : ByteArray)) ++ eq)] (fun _ => True) (fun _ => False) rfl rfl ?aP (fun _ hk => hk.elim) ?aF ?aO ?aB ?aS ?aL ?_; (case aP => exact rfl); (case aB => exact HBc.out); (case aF => exact (fun k hk => trivial)); (case aO => exact HRc.out); (case aS => exact HBc.out.size); (case aL => omega); intro v20 w7 ho hb hg hat; have HB7 := Lib.hid hb; have HR7 := Lib.hid ho; clear ho hb hg hat))
        go_roundw
        case rel => exact ⟨i + 1, by omega, by go_num, by rw [HTk.out, HE.out]; exact HR7, HB7⟩
        case measure => simp [intOf]; omega
      · have HE : Hid (Url.optB name true p = (name ++ (⟨#[61]⟩ : ByteArray)) ++ p) := Lib.hid rfl
        go_wp2_with (first | (go_at_call 46; (with_reducible refine (HLow.out _).mono ?_); rintro e wa ⟨rfl, hb⟩; have HBa := Lib.hid (HBl.out.trans (hb.mono HBl.out.size)); have HRa := Lib.hid (Kd.R_below HR.out hb); have ya := bl_cell hb y0; clear hb) | ((with_reducible refine gate_builtin (b := .append) (xs := #[.tmp 20, .tmp 26]) rfl ?_); at_builtin; refine Kd.R_append Kd.string (w0 := w3) w3.heap.size rfl (.tmp 20) (.tmp 26) 41 9 (.string ⟨#[]⟩) 16 rfl Tryd.underlying41 ZU.info9 rfl (by decide) (by omega) u3 acc ((name ++ (⟨#[61]⟩ : ByteArray)) ++ p) [.string ((name ++ (⟨#[61]⟩ : ByteArray)) ++ p)] (fun _ => True) (fun _ => False) rfl rfl ?aP (fun _ hk => hk.elim) ?aF ?aO ?aB ?aS ?aL ?_; (case aP => exact rfl); (case aB => exact HBa.out); (case aF => exact (fun k hk => trivial)); (case aO => exact HRa.out); (case aS => exact HBa.out.size); (case aL => omega); intro v20 w7 ho hb hg hat; have HB7 := Lib.hid hb; have HR7 := Lib.hid ho; clear ho hb hg hat))
        go_roundw
        case rel => exact ⟨i + 1, by omega, by go_num, by rw [HTk.out, HE.out]; exact HR7, HB7⟩
        case measure => simp [intOf]; omega
    · obtain rfl : i = P.length := by omega
      rw [List.take_length] at HR
      go_wp2
      go_ret
      exact ⟨_, rfl, Kd.R_lower HR.out (by omega), HBw.out.trans (HBl.out.mono (by omega))⟩
end Go.Proofs.YtipkpgmgjdfgoaaDoor.X
