/- The pure law of FnPacketUnits. -/
import Derived.Test.YtpacjdlgnoiheaaDoorPt
import Derived.Test.YtpacjdlgnoiheaaDoorZU
namespace Go.Proofs.YtpacjdlgnoiheaaDoor.Pure
open Go Go.RowKit Go.Proofs.YtpacjdlgnoiheaaDoor Go.Proofs.YtpacjdlgnoiheaaDoor.X Go.Proofs.YtpacjdlgnoiheaaDoorW.PrintWords Go.Proofs.YtpacjdlgnoiheaaDoorW.PrintLast Go.Proofs.YtpacjdlgnoiheaaDoorW.PrintMore
set_option linter.unusedVariables false
set_option linter.unusedSimpArgs false
theorem rng {k : IntKind} {n : Int} (h : (Lit.int k n).wf = true) : k.min ≤ n ∧ n ≤ k.max := by
  simp only [Lit.wf, Bool.and_eq_true, decide_eq_true_eq] at h
  exact h
theorem getD_set (l : List Int) (i j : Nat) (v : Int) : (l.set i v).getD j 0 = if i = j ∧ j < l.length then v else l.getD j 0 := by
  simp only [List.getD_eq_getElem?_getD, List.getElem?_set]
  by_cases h : i = j
  · subst h
    by_cases h2 : i < l.length
    · simp [h2]
    · simp [h2]
  · simp [h]
theorem byt_set {l : List Int} (h : Byt l) (i : Nat) (v : Int) (h0 : 0 ≤ v ∧ v ≤ 255) : Byt (l.set i v) := fun x hx => by
  rcases List.mem_or_eq_of_mem_set hx with h' | rfl
  · exact h x h'
  · exact h0
theorem byt_p16 {l : List Int} (h : Byt l) (o : Nat) (v : Int) (h0 : 0 ≤ v ∧ v ≤ 65535) : Byt (p16 l o v) := byt_set (byt_set h _ _ (by omega)) _ _ (by omega)
theorem byt_p32 {l : List Int} (h : Byt l) (o : Nat) (v : Int) (h0 : 0 ≤ v ∧ v ≤ 4294967295) : Byt (p32 l o v) := byt_set (byt_set (byt_set (byt_set h _ _ (by omega)) _ _ (by omega)) _ _ (by omega)) _ _ (by omega)
theorem byt_rep (n : Nat) : Byt (List.replicate n 0) := fun x hx => by rw [(List.mem_replicate.1 hx).2]; omega
theorem byt_headZ (long : Bool) (len : Int) (h : 0 ≤ len ∧ len ≤ 4294967295) (n : Nat) : Byt (headZ long len 1 0 (List.replicate n 0)) := by
  unfold headZ
  cases long
  · simp only [Bool.false_eq_true, if_false]
    exact byt_set (byt_set (byt_set (byt_set (byt_rep n) _ _ (by omega)) _ _ (by omega)) _ _ (by omega)) _ _ (by omega)
  · simp only [if_true]
    exact byt_set (byt_set (byt_set (byt_set (byt_set (byt_set (byt_rep n) _ _ (by omega)) _ _ (by omega)) _ _ (by omega)) _ _ (by omega)) _ _ (by omega)) _ _ (by omega)
theorem low_rng (v : Int) (h : 0 ≤ v) : 0 ≤ low16 v ∧ low16 v ≤ 65535 := by unfold low16; split <;> omega
theorem conn_byt (long : Bool) (len ver lo opt our hist su tu : Int) (n : Nat) (hl : 0 ≤ len ∧ len ≤ 4294967295) (h : Rng ver lo opt our su tu) (hn : n ≤ 2000) : Byt (connHead long len ver lo opt our hist su tu n) := by
  obtain ⟨h1, h2, h3, h4, h5, h6⟩ := h
  unfold connHead
  exact byt_set (byt_set (byt_p16 (byt_p16 (byt_p16 (byt_set (byt_set (byt_p32 (byt_p32 (byt_p16 (byt_p32 (byt_p16 (byt_p16 (byt_p16 (byt_p16 (byt_headZ long len hl 70) _ _ h1) _ _ h2) _ _ h3) _ _ (low_rng su h5.1)) _ _ h5) _ _ (low_rng tu h6.1)) _ _ h6) _ _ (by omega)) _ _ (by omega)) _ _ (by omega)) _ _ h4) _ _ (by omega)) _ _ (by omega)) _ _ (by omega)) _ _ (by omega)
theorem conn_length (long : Bool) (len ver lo opt our hist su tu : Int) (n : Nat) : (connHead long len ver lo opt our hist su tu n).length = 70 := by
  unfold connHead
  simp only [List.length_set, p16_length, p32_length, headZ_length, List.length_replicate]
theorem conn_at (long : Bool) (len ver lo opt our hist su tu : Int) (n : Nat) (j : Nat) (v : Int)
    (h : (j = 14 ∧ v = low16 su / 256) ∨ (j = 15 ∧ v = low16 su % 256) ∨ (j = 16 ∧ v = low16 tu / 256) ∨ (j = 17 ∧ v = low16 tu % 256) ∨ (j = 58 ∧ v = su / 16777216) ∨ (j = 59 ∧ v = su / 65536 % 256) ∨ (j = 60 ∧ v = su / 256 % 256) ∨ (j = 61 ∧ v = su % 256) ∨ (j = 62 ∧ v = tu / 16777216) ∨ (j = 63 ∧ v = tu / 65536 % 256) ∨ (j = 64 ∧ v = tu / 256 % 256) ∨ (j = 65 ∧ v = tu % 256)) :
    (connHead long len ver lo opt our hist su tu n).getD j 0 = v := by
  have hz := headZ_length long len 1 0 (List.replicate 70 0)
  rw [List.length_replicate] at hz
  unfold connHead p16 p32
  generalize headZ long len 1 0 (List.replicate 70 0) = l0 at *
  rcases h with ⟨rfl, rfl⟩ | ⟨rfl, rfl⟩ | ⟨rfl, rfl⟩ | ⟨rfl, rfl⟩ | ⟨rfl, rfl⟩ | ⟨rfl, rfl⟩ | ⟨rfl, rfl⟩ | ⟨rfl, rfl⟩ | ⟨rfl, rfl⟩ | ⟨rfl, rfl⟩ | ⟨rfl, rfl⟩ | ⟨rfl, rfl⟩ <;>
    simp [getD_set, List.length_set, hz]
theorem app_at (l r : List Int) (j : Nat) (h : j < l.length) : (l ++ r).getD j 0 = l.getD j 0 := by
  simp only [List.getD_eq_getElem?_getD]
  rw [List.getElem?_append_left h]
theorem bytesOf_byt (m : ByteArray) : Byt (bytesOf m) := by
  intro x hx
  unfold bytesOf at hx
  obtain ⟨b, _, rfl⟩ := List.mem_map.1 hx
  have := b.toNat_lt
  omega
theorem mn_low (v : Int) : mn v 65535 = low16 v := by
  unfold mn low16
  split <;> (try split) <;> omega
theorem FnPacketUnits (a0 a1 a2 a3 a4 a5 a6 a7 a8 : Int) (a9 : Bool) (w0 : (Lit.int .u16 a0).wf = true) (w1 : (Lit.int .u16 a1).wf = true) (w2 : (Lit.int .u16 a2).wf = true) (w3 : (Lit.int .u16 a3).wf = true) (w4 : (Lit.int .u16 a4).wf = true) (w5 : (Lit.int .u8 a5).wf = true) (w6 : (Lit.int .u8 a6).wf = true) (w7 : (Lit.int .u32 a7).wf = true) (w8 : (Lit.int .u32 a8).wf = true)
    (s : ByteArray) (ws : s.size ≤ 140737488351232) : ∃ n, ZU.laws_FnPacketUnits.f n a0 a1 a2 a3 a4 a5 a6 a7 a8 a9 s = some true := by
  have hr : Rng a0 a1 a2 a3 a7 a8 := ⟨rng w0, rng w1, rng w2, rng w3, rng w7, rng w8⟩
  refine ⟨5, ?_⟩
  unfold ZU.laws_FnPacketUnits.f
  by_cases h1 : (s.size : Int) > 2147483647
  · rw [if_pos h1]
  · rw [if_neg h1]
    by_cases h2 : (s.size : Int) > 2000
    · rw [if_pos h2]; rfl
    · have hc : impl_ConnectBytes.f a0 a1 a2 a3 a4 a5 a6 a7 a8 a9 s = some (connList a0 a1 a2 a3 a4 a7 a8 a9 s) := by unfold impl_ConnectBytes.f; rw [if_pos ⟨hr, by omega⟩]
      have hs : (bytesOf s).length = s.size := bytesOf_length s
      have hlen : 0 ≤ connLen s.size ∧ connLen s.size ≤ 4294967295 := by unfold connLen; split <;> omega
      have hb : Byt (connList a0 a1 a2 a3 a4 a7 a8 a9 s) := by
        unfold connList
        intro x hx
        rcases List.mem_append.1 hx with hx | hx
        · exact conn_byt _ _ _ _ _ _ _ _ _ _ hlen hr (by omega) x hx
        · split at hx
          · exact bytesOf_byt s x hx
          · simp at hx
      have h70 := conn_length (longOf a9 a0) (connLen s.size) a0 a1 a2 a3 a4 a7 a8 (bytesOf s).length
      have hll : 70 ≤ (connList a0 a1 a2 a3 a4 a7 a8 a9 s).length ∧ (connList a0 a1 a2 a3 a4 a7 a8 a9 s).length ≤ 140737488355328 := by
        unfold connList
        rw [List.length_append, h70]
        split <;> simp <;> omega
      have hat : ∀ (j : Nat) v, j < 70 → (connHead (longOf a9 a0) (connLen s.size) a0 a1 a2 a3 a4 a7 a8 (bytesOf s).length).getD j 0 = v → (connList a0 a1 a2 a3 a4 a7 a8 a9 s).getD j 0 = v := fun j v hj h => by
        unfold connList
        rw [app_at _ _ _ (by rw [h70]; exact hj)]
        exact h
      have g14 := hat 14 _ (by omega) (conn_at _ _ _ _ _ _ _ _ _ _ 14 _ (.inl ⟨rfl, rfl⟩))
      have g15 := hat 15 _ (by omega) (conn_at _ _ _ _ _ _ _ _ _ _ 15 _ (.inr (.inl ⟨rfl, rfl⟩)))
      have g16 := hat 16 _ (by omega) (conn_at _ _ _ _ _ _ _ _ _ _ 16 _ (.inr (.inr (.inl ⟨rfl, rfl⟩))))
      have g17 := hat 17 _ (by omega) (conn_at _ _ _ _ _ _ _ _ _ _ 17 _ (.inr (.inr (.inr (.inl ⟨rfl, rfl⟩)))))
      have g58 := hat 58 _ (by omega) (conn_at _ _ _ _ _ _ _ _ _ _ 58 _ (.inr (.inr (.inr (.inr (.inl ⟨rfl, rfl⟩))))))
      have g59 := hat 59 _ (by omega) (conn_at _ _ _ _ _ _ _ _ _ _ 59 _ (.inr (.inr (.inr (.inr (.inr (.inl ⟨rfl, rfl⟩)))))))
      have g60 := hat 60 _ (by omega) (conn_at _ _ _ _ _ _ _ _ _ _ 60 _ (.inr (.inr (.inr (.inr (.inr (.inr (.inl ⟨rfl, rfl⟩))))))))
      have g61 := hat 61 _ (by omega) (conn_at _ _ _ _ _ _ _ _ _ _ 61 _ (.inr (.inr (.inr (.inr (.inr (.inr (.inr (.inl ⟨rfl, rfl⟩)))))))))
      have g62 := hat 62 _ (by omega) (conn_at _ _ _ _ _ _ _ _ _ _ 62 _ (.inr (.inr (.inr (.inr (.inr (.inr (.inr (.inr (.inl ⟨rfl, rfl⟩))))))))))
      have g63 := hat 63 _ (by omega) (conn_at _ _ _ _ _ _ _ _ _ _ 63 _ (.inr (.inr (.inr (.inr (.inr (.inr (.inr (.inr (.inr (.inl ⟨rfl, rfl⟩)))))))))))
      have g64 := hat 64 _ (by omega) (conn_at _ _ _ _ _ _ _ _ _ _ 64 _ (.inr (.inr (.inr (.inr (.inr (.inr (.inr (.inr (.inr (.inr (.inl ⟨rfl, rfl⟩))))))))))))
      have g65 := hat 65 _ (by omega) (conn_at _ _ _ _ _ _ _ _ _ _ 65 _ (.inr (.inr (.inr (.inr (.inr (.inr (.inr (.inr (.inr (.inr (.inr ⟨rfl, rfl⟩))))))))))))
      obtain ⟨hl0, hl1⟩ := hll
      rw [if_neg h2, hc, Option.bind_some]
      generalize connList a0 a1 a2 a3 a4 a7 a8 a9 s = L at *
      have e58 : spec_PacketGet.f 5 L 58 4 = some (((L.getD 58 0 * 256 + L.getD 59 0) * 256 + L.getD 60 0) * 256 + L.getD 61 0) := get4 0 L 58 (by omega) hl1 hb
      have e62 : spec_PacketGet.f 5 L 62 4 = some (((L.getD 62 0 * 256 + L.getD 63 0) * 256 + L.getD 64 0) * 256 + L.getD 65 0) := get4 0 L 62 (by omega) hl1 hb
      have e14 : spec_PacketGet.f 5 L 14 2 = some (L.getD 14 0 * 256 + L.getD 15 0) := get2 2 L 14 (by omega) hl1 hb
      have e16 : spec_PacketGet.f 5 L 16 2 = some (L.getD 16 0 * 256 + L.getD 17 0) := get2 2 L 16 (by omega) hl1 hb
      obtain ⟨_, _, _, _, h7, h8⟩ := hr
      have v58 : ((L.getD 58 0 * 256 + L.getD 59 0) * 256 + L.getD 60 0) * 256 + L.getD 61 0 = a7 := by rw [g58, g59, g60, g61]; omega
      have v62 : ((L.getD 62 0 * 256 + L.getD 63 0) * 256 + L.getD 64 0) * 256 + L.getD 65 0 = a8 := by rw [g62, g63, g64, g65]; omega
      have v14 : L.getD 14 0 * 256 + L.getD 15 0 = low16 a7 := by rw [g14, g15]; omega
      have v16 : L.getD 16 0 * 256 + L.getD 17 0 = low16 a8 := by rw [g16, g17]; omega
      have hw7 : IntKind.u64.wrap a7 = a7 := u64_wrap_id _ (by omega) (by omega)
      have hw8 : IntKind.u64.wrap a8 = a8 := u64_wrap_id _ (by omega) (by omega)
      rw [if_neg (by omega), e58, Option.bind_some, e62, Option.bind_some, v58, v62, hw7, hw8, if_pos rfl, if_pos rfl, e14, Option.bind_some, v14, mn_low, if_pos rfl, e16, Option.bind_some, v16, mn_low, if_pos rfl]
      rfl
end Go.Proofs.YtpacjdlgnoiheaaDoor.Pure
