/- spec.ConfigQuery: a text as a value of a query, by the reference. -/
import Derived.Test.YtipkpgmgjdfgoaaDoorCe
namespace Go.Proofs.YtipkpgmgjdfgoaaDoor.X
open Go.RowKit Go.Proofs.YtipkpgmgjdfgoaaDoorW.PrintWords Go.Proofs.YtipkpgmgjdfgoaaDoorW.PrintMore
attribute [local go_sem] setCell_drewN alloc_drewN
set_option linter.unusedVariables false
set_option linter.unusedSimpArgs false
namespace Url
/-- A blank as a plus. -/
def pls (c : Int) : Int := if c = 32 then 43 else c
def cqL (l : List Int) : List Int := (ceL ⟨#[32]⟩ l).map pls
theorem letL_lt (x : Int) (h : x ∈ letL ⟨#[32]⟩) : 0 ≤ x ∧ x < 128 := by
  have k : ∀ x ∈ letL ⟨#[32]⟩, 0 ≤ x ∧ x < 128 := by decide
  exact k x h
theorem ceL_lt (l : List Int) (hl : ∀ x ∈ l, 0 ≤ x ∧ x < 256) : ∀ y ∈ ceL ⟨#[32]⟩ l, 0 ≤ y ∧ y < 128 := by
  intro y hy
  unfold ceL at hy
  rw [List.mem_flatMap] at hy
  obtain ⟨x, hx, hy⟩ := hy
  have hb := hl x hx
  unfold ce1 at hy
  split at hy
  · rename_i hc
    rw [List.mem_singleton] at hy
    subst hy
    rcases hc with hc | hc
    · unfold alnum at hc
      simp at hc
      omega
    · exact letL_lt _ hc
  · simp only [List.mem_cons, List.not_mem_nil, or_false] at hy
    rcases hy with rfl | rfl | rfl
    · omega
    · unfold hexd; split <;> omega
    · unfold hexd; split <;> omega
end Url
def spec_ConfigQuery.f (a0 : ByteArray) : Option ByteArray := if a0.size ≤ 300000 then some (strOfNums (Url.cqL (bytesOf a0))) else none
set_option maxHeartbeats 8000000 in
set_option maxRecDepth 100000 in
theorem spec_ConfigQuery.calls (a0 : ByteArray) (r : ByteArray) (w : World) (h : spec_ConfigQuery.f a0 = some r) :
    Calls Tryd.prog 55 #[.string a0] w fun e w' => e = .returned (.string r) ∧ Below w.heap.size w w' := by
  unfold spec_ConfigQuery.f at h
  split at h
  · rename_i hsz
    have hr := Lib.hid (Option.some.inj h)
    clear h
    have hby := byt_bytesOf a0
    have hle := bytesOf_length a0
    have hlt0 : ∀ y ∈ Url.ceL ⟨#[32]⟩ (bytesOf a0), 0 ≤ y ∧ y < 128 := Url.ceL_lt _ (fun x hx => by have := hby x hx; omega)
    have hln0 := Url.ceL_len ⟨#[32]⟩ (bytesOf a0)
    have hCe := Lib.hid (spec_configEscaped.calls a0 ⟨#[32]⟩ _ w (by unfold spec_configEscaped.f; exact if_pos ⟨by omega, by decide, by decide⟩))
    obtain ⟨l, hl⟩ : ∃ l, l = Url.ceL ⟨#[32]⟩ (bytesOf a0) := ⟨_, rfl⟩
    unfold Url.cqL at hr
    rw [← hl] at hr hlt0 hln0 hCe
    have hbl : Byt l := fun x hx => by have := hlt0 x hx; omega
    have hbs : bytesOf (strOfNums l) = l := Url.bytesOf_str l hbl
    have hss := Url.size_str l
    obtain ⟨s, hs⟩ : ∃ s, s = strOfNums l := ⟨_, rfl⟩
    rw [← hs] at hbs hss hCe
    have HLt := Lib.hid hlt0
    obtain ⟨n, hn⟩ : ∃ n, n = l.length := ⟨_, rfl⟩
    have HN := Lib.hid hn.symm
    have hnb : n ≤ 900000 := by omega
    have hsn : s.size = n := by omega
    clear hl hs hlt0 hln0 hby hle hss
    go_enter Tryd.func55, Tryd.ntmps55
    go_wp2_with (go_at_call 68; (with_reducible refine hCe.out.mono ?_); rintro e w1 ⟨rfl, HB1⟩)
    obtain ⟨w2, c, cs, hcv, hsc, hB2, hblk, hcell⟩ := conv_row (P := Tryd.prog) w1 9 43 Tryd.underlying9 Tryd.underlying43 Tryd.underlying5 s
    rw [hsn] at hsc hcell hcv
    rw [hbs] at hcell
    have hg2 := xb_lt hblk
    have HB : Hid (Below w.heap.size w w2) := Lib.hid (HB1.trans (hB2.mono HB1.size))
    have HC : Hid (∀ i : Nat, i < n → w2.cell? ⟨w1.heap.size, i, none⟩ = some (.int .u8 (l.getD i 0))) := Lib.hid (fun i hi => (xb_cell hblk i).trans (hcell i hi))
    clear hB2 hblk hcell HB1 hsz hbs
    rw [hcv]
    go_simp
    go_wp2
    clear hcv
    go_loop [3, 10] (fun v3 v10 => ∃ i : Nat, i ≤ n ∧ v10 = .int .i64 i ∧ v3 = .string (strOfNums ((l.take i).map Url.pls))) (fun _ v10 => n - (intOf v10).toNat)
    case atStart => exact ⟨0, Nat.zero_le _, rfl, rfl⟩
    case round =>
      obtain ⟨i, hi, rfl, rfl⟩ := hrel
      by_cases hlt : i < n
      · have x0 := HC.out i hlt
        have hx : 0 ≤ l.getD i 0 ∧ l.getD i 0 < 128 := by
          rw [List.getD_eq_getElem?_getD, List.getElem?_eq_getElem (by omega)]
          exact HLt.out _ (List.getElem_mem _)
        have HTk := Lib.hid (Url.take_snoc l i (by rw [HN.out]; exact hlt))
        have hso : (strOfNums ((l.take i).map Url.pls)).size ≤ 900000 := by
          rw [Url.size_str, List.length_map, List.length_take]
          omega
        generalize hst : strOfNums ((l.take i).map Url.pls) = st at *
        have HSt := Lib.hid hst
        clear hst
        generalize l.getD i 0 = x at *
        by_cases h32 : x = 32
        · subst h32
          have HEn := Lib.hid (Url.enc_one 43 (by omega) (by omega))
          have hes : (Utf8.encode 43).size ≤ 1 := by rw [HEn.out, Url.size_str]; exact Nat.le_refl _
          go_wp2
          go_round
          case rel => exact ⟨i + 1, by omega, by go_num, by rw [HTk.out, List.map_append, Url.str_app, HSt.out, HEn.out]; rfl⟩
          case measure => simp [intOf]; omega
        · have E1 := Lib.hid (show Url.pls x = x from if_neg h32)
          have d0 : (x == 32) = false := beq_eq_false_iff_ne.2 h32
          have HEn := Lib.hid (Url.enc_one x hx.1 hx.2)
          have hes : (Utf8.encode x).size ≤ 1 := by rw [HEn.out, Url.size_str]; exact Nat.le_refl _
          go_wp2
          go_round
          case rel => exact ⟨i + 1, by omega, by go_num, by rw [HTk.out, List.map_append, Url.str_app, HSt.out, HEn.out, List.map_singleton, E1.out]⟩
          case measure => simp [intOf]; omega
      · obtain rfl : i = n := by omega
        have hfin : strOfNums ((l.take i).map Url.pls) = r := by rw [List.take_of_length_le (by rw [HN.out]; exact Nat.le_refl _)]; exact hr.out
        rw [hfin]
        clear hfin
        go_wp2
        go_ret
        exact ⟨rfl, HB.out⟩
  · cases h
end Go.Proofs.YtipkpgmgjdfgoaaDoor.X
