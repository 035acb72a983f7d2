/- The plain law of FnUrlOption: the options' texts of the reference are those of the address. -/
import Derived.Test.YtipkpgmgjdfgoaaDoorCp
import Derived.Test.YtipkpgmgjdfgoaaDoorUp
namespace Go.Proofs.YtipkpgmgjdfgoaaDoor.X
open Go.RowKit Go.Proofs.YtipkpgmgjdfgoaaDoorW.PrintWords Go.Proofs.YtipkpgmgjdfgoaaDoorW.PrintMore
set_option linter.unusedVariables false
set_option linter.unusedSimpArgs false
namespace Url
theorem fm_congr {f g : Int → List Int} : ∀ l : List Int, (∀ x ∈ l, f x = g x) → l.flatMap f = l.flatMap g
  | [], _ => rfl
  | a :: l, h => by rw [List.flatMap_cons, List.flatMap_cons, h a (by simp), fm_congr l (fun x hx => h x (by simp [hx]))]
set_option maxRecDepth 100000 in
theorem ce_path0 : ∀ c : Fin 256, ce1 ⟨#[36, 38, 43, 61, 58, 64]⟩ (c.val : Int) = esc1 2 (c.val : Int) := by decide +kernel
set_option maxRecDepth 100000 in
theorem cq0 : ∀ c : Fin 256, (ce1 ⟨#[32]⟩ (c.val : Int)).map pls = esc1 32 (c.val : Int) := by decide +kernel
theorem ce_path (l : List Int) (h : Byt l) : ceL ⟨#[36, 38, 43, 61, 58, 64]⟩ l = escL 2 l := by
  unfold ceL escL
  refine fm_congr l fun x hx => ?_
  have hb := h x hx
  have := ce_path0 ⟨x.toNat, by omega⟩
  simp only at this
  rwa [show ((x.toNat : Nat) : Int) = x by omega] at this
theorem cq_query (l : List Int) (h : Byt l) : cqL l = escL 32 l := by
  unfold cqL ceL escL
  rw [List.map_flatMap]
  refine fm_congr l fun x hx => ?_
  have hb := h x hx
  have := cq0 ⟨x.toNat, by omega⟩
  simp only at this
  rwa [show ((x.toNat : Nat) : Int) = x by omega] at this
/-- An option's text for one part. -/
def optB (name : ByteArray) (srv : Bool) (p : ByteArray) : ByteArray := (name ++ (⟨#[61]⟩ : ByteArray)) ++ (if srv then p else strOfNums (cqL (bytesOf p)))
def optsB (name : ByteArray) (srv : Bool) (val : ByteArray) : List ByteArray := ((splitL val.data.toList).map fun p => mkB (trim32 p)).map (optB name srv)
def sepN (i : Nat) : ByteArray := if i = 0 then ⟨#[63]⟩ else ⟨#[38]⟩
def wantA : Nat → ByteArray → List ByteArray → ByteArray
  | _, r, [] => r
  | i, r, x :: l => wantA (i + 1) (r ++ (sepN i ++ x)) l
theorem wantA_snoc (x : ByteArray) : ∀ (l : List ByteArray) (i : Nat) (r : ByteArray), wantA i r (l ++ [x]) = wantA i r l ++ (sepN (i + l.length) ++ x)
  | [], i, r => rfl
  | y :: l, i, r => by
    rw [List.cons_append, wantA, wantA, wantA_snoc x l, List.length_cons, show i + 1 + l.length = i + (l.length + 1) by omega]
theorem want_fold : ∀ (l : List ByteArray) (o : ByteArray) (i : Nat) (r : ByteArray), (o :: l).foldl (fun r o => r ++ (o ++ (⟨#[38]⟩ : ByteArray))) (r ++ sepN i) = wantA i r (o :: l) ++ (⟨#[38]⟩ : ByteArray)
  | [], o, i, r => by
    simp only [List.foldl_cons, List.foldl_nil, wantA, ByteArray.append_assoc]
  | o' :: l, o, i, r => by
    have ih := want_fold l o' (i + 1) (r ++ (sepN i ++ o))
    rw [List.foldl_cons, wantA, ← ih]
    have e : sepN (i + 1) = ⟨#[38]⟩ := by unfold sepN; rw [if_neg (by omega)]
    rw [e]
    simp only [ByteArray.append_assoc]
theorem splitL_sub : ∀ (l : List UInt8), ∀ p ∈ splitL l, ∀ b ∈ p, b ∈ l
  | [], p, hp, b, hb => by
    simp [splitL] at hp
    subst hp
    exact hb
  | c :: r, p, hp, b, hb => by
    have ih := splitL_sub r
    rw [splitL] at hp
    split at hp
    · rcases List.mem_cons.1 hp with rfl | hp
      · simp at hb
      · exact List.mem_cons_of_mem _ (ih p hp b hb)
    · split at hp
      · rw [List.mem_singleton] at hp
        subst hp
        rw [List.mem_singleton] at hb
        subst hb
        simp
      · rename_i a t e
        rw [e] at ih
        rcases List.mem_cons.1 hp with rfl | hp
        · rcases List.mem_cons.1 hb with rfl | hb
          · simp
          · exact List.mem_cons_of_mem _ (ih a (by simp) b hb)
        · exact List.mem_cons_of_mem _ (ih p (by simp [hp]) b hb)
theorem trim32_sub (l : List UInt8) : ∀ b ∈ trim32 l, b ∈ l := by
  intro b hb
  unfold trim32 at hb
  have h1 := (List.dropWhile_sublist _).mem (List.mem_reverse.1 hb)
  exact (List.dropWhile_sublist _).mem (List.mem_reverse.1 h1)
theorem trim32_le (l : List UInt8) : (trim32 l).length ≤ l.length := by
  unfold trim32
  rw [List.length_reverse]
  refine Nat.le_trans (drop_le _ _) ?_
  rw [List.length_reverse]
  exact drop_le _ _
def Vis (l : List UInt8) : Prop := ∀ b ∈ l, 32 ≤ b.toNat ∧ b.toNat < 127
theorem trimB_eq (s : ByteArray) (h : Vis s.data.toList) : trimB s = mkB (trim32 s.data.toList) := by
  unfold trimB mkB
  rw [trim_same _ h]
/-- The parts that goora.BuildUrl takes. -/
def psOf (val : ByteArray) : List ByteArray := (splitL (trim32 val.data.toList)).map mkB
theorem piece_opt (key : ByteArray) (srv : Bool) (p : List UInt8) (h : Vis p) : piece key srv (mkB p) = optB key srv (mkB (trim32 p)) ++ (⟨#[38]⟩ : ByteArray) := by
  have e : trimB (mkB p) = mkB (trim32 p) := by rw [trimB_eq _ (by rw [data_mkB]; exact h), data_mkB]
  unfold piece optB partE
  rw [e]
  cases srv
  · rw [if_neg (by decide), if_neg (by decide), cq_query _ (byt_bytesOf _)]
  · rw [if_pos rfl, if_pos rfl]
theorem retN_opts (key val ret0 : ByteArray) (srv : Bool) (h : Vis val.data.toList) : retN ret0 key srv (psOf val) = (optsB key srv val).foldl (fun r o => r ++ (o ++ (⟨#[38]⟩ : ByteArray))) ret0 := by
  have e : optsB key srv val = (splitL (trim32 val.data.toList)).map fun p => optB key srv (mkB (trim32 p)) := by
    unfold optsB
    rw [List.map_map]
    have k := split_trim val.data.toList
    have k2 := congrArg (List.map fun p => optB key srv (mkB p)) k
    rw [List.map_map, List.map_map] at k2
    exact k2.symm
  rw [e]
  unfold retN psOf
  have hs : ∀ p ∈ splitL (trim32 val.data.toList), Vis p := fun p hp b hb => h b (trim32_sub _ b (splitL_sub _ p hp b hb))
  generalize splitL (trim32 val.data.toList) = L at hs ⊢
  induction L generalizing ret0 with
  | nil => rfl
  | cons p L ih =>
    rw [List.map_cons, List.map_cons, List.foldl_cons, List.foldl_cons, piece_opt key srv p (hs p (by simp))]
    exact ih _ (fun q hq => hs q (by simp [hq]))
theorem optsB_ne (key val : ByteArray) (srv : Bool) : optsB key srv val ≠ [] := by
  unfold optsB
  intro e
  have := splitL_ne val.data.toList
  simp only [List.map_eq_nil_iff] at e
  exact this e
theorem optB_size (key p : ByteArray) (srv : Bool) (hk : key.size ≤ 100) (hp : p.size ≤ 300) : (optB key srv p).size ≤ 1001 ∧ 0 < (optB key srv p).size := by
  have e1 : (⟨#[61]⟩ : ByteArray).size = 1 := rfl
  unfold optB
  simp only [ByteArray.size_append, e1]
  split
  · omega
  · have := esc_size 32 (bytesOf p)
    rw [bytesOf_length] at this
    rw [cq_query _ (byt_bytesOf p), size_str]
    omega
theorem optsB_mem (key val : ByteArray) (srv : Bool) (hk : key.size ≤ 100) (hv : val.size ≤ 300) : ∀ o ∈ optsB key srv val, o.size ≤ 1001 ∧ 0 < o.size := by
  intro o ho
  unfold optsB at ho
  rw [List.map_map, List.mem_map] at ho
  obtain ⟨p, hp, rfl⟩ := ho
  refine optB_size key _ srv hk ?_
  rw [mkB_size]
  have h1 := trim32_le p
  have h2 := splitL_mem _ p hp
  rw [data_length] at h2
  omega
theorem optsB_len (key val : ByteArray) (srv : Bool) (hv : val.size ≤ 300) : (optsB key srv val).length ≤ 301 := by
  unfold optsB
  rw [List.length_map, List.length_map]
  have := splitL_len val.data.toList
  rw [data_length] at this
  omega
theorem wantA_size : ∀ (l : List ByteArray) (i : Nat) (r : ByteArray), (∀ o ∈ l, o.size ≤ 1001) → (wantA i r l).size ≤ r.size + 1002 * l.length
  | [], i, r, _ => by simp [wantA]
  | x :: l, i, r, h => by
    have ih := wantA_size l (i + 1) (r ++ (sepN i ++ x)) (fun o ho => h o (by simp [ho]))
    have hx := h x (by simp)
    have hs : (sepN i).size = 1 := by unfold sepN; split <;> rfl
    rw [ByteArray.size_append, ByteArray.size_append, hs] at ih
    rw [wantA, List.length_cons]
    omega
theorem opt_out (hd key val : ByteArray) (srv : Bool) (hv : Vis val.data.toList) (hz : hd.size ≤ 100000) (hk : key.size ≤ 100) (hvz : val.size ≤ 300) (hamp : ∀ o ∈ optsB key srv val, ∀ b ∈ o.data.toList, b ≠ 38) :
    ∃ k, ZU.goora_zzTrimRight.f k (retN (hd ++ (⟨#[63]⟩ : ByteArray)) key srv (psOf val)) ⟨#[38]⟩ = some (wantA 0 hd (optsB key srv val)) := by
  rw [retN_opts key val _ srv hv]
  have hm := optsB_mem key val srv hk hvz
  have hl := optsB_len key val srv hvz
  have hne := optsB_ne key val srv
  generalize optsB key srv val = L at *
  have e : L.foldl (fun r o => r ++ (o ++ (⟨#[38]⟩ : ByteArray))) (hd ++ (⟨#[63]⟩ : ByteArray)) = wantA 0 hd L ++ (⟨#[38]⟩ : ByteArray) := by
    cases L with
    | nil => exact absurd rfl hne
    | cons o l => exact want_fold l o 0 hd
  have hws := wantA_size L 0 hd (fun o ho => (hm o ho).1)
  obtain ⟨D, o, rfl⟩ : ∃ D o, L = D ++ [o] := ⟨_, _, (List.dropLast_concat_getLast hne).symm⟩
  have ho := hm o (by simp)
  have hao := hamp o (by simp)
  rw [e]
  have e2 : wantA 0 hd (D ++ [o]) = (wantA 0 hd D ++ sepN (0 + D.length)) ++ o := by rw [wantA_snoc, ByteArray.append_assoc]
  have hdl : ∀ s : ByteArray, s.data.toList.length = s.size := data_length
  generalize hW : wantA 0 hd (D ++ [o]) = W at *
  have hWs : W.size = (wantA 0 hd D ++ sepN (0 + D.length)).size + o.size := by rw [e2, ByteArray.size_append]
  have e3 : W ++ (⟨#[38]⟩ : ByteArray) = mkB (W.data.toList ++ [38]) := by
    rw [mkB_app, mkB_data]
    rfl
  rw [e3]
  obtain ⟨k, hk2⟩ := zzTrim_one W.data.toList (by rw [hdl]; omega) (by rw [hdl, ]; omega) (by
    have hb : ∀ (Z X Y : List UInt8) (hZ : Z = X ++ Y) (hY : 0 < Y.length) (hp : Z.length - 1 < Z.length), Z[Z.length - 1] ∈ Y := by
      intro Z X Y hZ hY hp
      subst hZ
      rw [List.getElem_append_right (by rw [List.length_append]; omega)]
      exact List.getElem_mem _
    refine hao _ (hb W.data.toList (wantA 0 hd D ++ sepN (0 + D.length)).data.toList o.data.toList ?_ (by rw [hdl]; omega) (by rw [hdl]; omega))
    rw [e2, ByteArray.data_append, Array.toList_append])
  exact ⟨k, by rw [hk2, mkB_data]⟩
theorem vis_ascii {s : ByteArray} (h : Vis s.data.toList) : Ascii s := fun b hb => by have := h b hb; omega
theorem opts_of (key val : ByteArray) (hk : key.size ≤ 100) (hv : val.size ≤ 300) (hka : Ascii key) (hvv : Vis val.data.toList) :
    Opts key val (psOf val) (decide (Lib.toUpperA key.data.toList = [83, 69, 82, 86, 69, 82])) := by
  have hmem : ∀ p ∈ splitL (trim32 val.data.toList), p.length ≤ 300 ∧ ∀ b ∈ p, b ∈ val.data.toList := fun p hp => by
    have h1 := splitL_mem _ p hp
    have h2 := trim32_le val.data.toList
    rw [data_length] at h2
    exact ⟨by omega, fun b hb => trim32_sub _ b (splitL_sub _ p hp b hb)⟩
  refine ⟨by omega, by omega, hka, vis_ascii hvv, ?_, ?_, ?_, ?_, rfl⟩
  · rw [trimB_eq val hvv]
    obtain ⟨k, hk⟩ := zzSplit_f (mkB (trim32 val.data.toList)) (by
      have := trim32_le val.data.toList
      rw [data_length] at this
      rw [mkB_size]; omega)
    rw [data_mkB] at hk
    exact ⟨k, hk⟩
  · unfold psOf
    rw [List.length_map]
    have h1 := splitL_len (trim32 val.data.toList)
    have h2 := trim32_le val.data.toList
    rw [data_length] at h2
    omega
  · intro p hp
    unfold psOf at hp
    obtain ⟨q, hq, rfl⟩ := List.mem_map.1 hp
    rw [mkB_size]
    have := (hmem q hq).1
    omega
  · intro p hp
    unfold psOf at hp
    obtain ⟨q, hq, rfl⟩ := List.mem_map.1 hp
    intro b hb
    rw [data_mkB] at hb
    exact vis_ascii hvv b ((hmem q hq).2 b hb)
end Url
end Go.Proofs.YtipkpgmgjdfgoaaDoor.X
