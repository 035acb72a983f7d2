/- The pure law of FnPacketDataRead. -/
import Derived.Test.YtpacjdlgnoiheaaDoorPt
import Derived.Test.YtpacjdlgnoiheaaDoorPe
import Derived.Test.YtpacjdlgnoiheaaDoorZD3
namespace Go.Proofs.YtpacjdlgnoiheaaDoor.Pure
open Go Go.RowKit Go.Proofs.YtpacjdlgnoiheaaDoor Go.Proofs.YtpacjdlgnoiheaaDoor.X Go.Proofs.YtpacjdlgnoiheaaDoorW.PrintWords Go.Proofs.YtpacjdlgnoiheaaDoorW.PrintLast Go.Proofs.YtpacjdlgnoiheaaDoorW.PrintMore

set_option linter.unusedVariables false
theorem byt_of {l : List Int} (hw : ∀ x ∈ l, (Lit.int .u8 x).wf = true) : Byt l := by
  intro x hx
  have := hw x hx
  simp only [Lit.wf, Bool.and_eq_true, decide_eq_true_eq] at this
  have e0 : IntKind.u8.min = 0 := rfl
  have e1 : IntKind.u8.max = 255 := rfl
  omega
theorem head_of (k : Nat) (long : Bool) (l : List Int) (off : Int) (h6 : 6 ≤ l.length) (hl : l.length ≤ 140737488355328) (hb : Byt l) : ZD.spec_PacketHeadOf.f (k + 5) long l off = some (lenOf long l, l.getD 4 0, l.getD 5 0, off) := by
  obtain ⟨p0, p1⟩ := hb.get 0
  obtain ⟨q0, q1⟩ := hb.get 1
  obtain ⟨r0, r1⟩ := hb.get 2
  obtain ⟨s0, s1⟩ := hb.get 3
  have e4 : rd l 4 = l.getD 4 0 := rfl
  have e5 : rd l 5 = l.getD 5 0 := rfl
  unfold ZD.spec_PacketHeadOf.f
  cases long
  · rw [if_neg (by decide)]
    have := get2 (k + 2) l 0 (by omega) hl hb
    rw [show ((0 : Nat) : Int) = 0 from rfl] at this
    simp only [Nat.zero_add] at this
    rw [this, Option.bind_some, if_pos (by omega), if_pos (by omega), e4, e5, Int.emod_eq_of_lt (by omega) (by omega)]
    rfl
  · rw [if_pos rfl]
    have := get4 k l 0 (by omega) hl hb
    rw [show ((0 : Nat) : Int) = 0 from rfl] at this
    simp only [Nat.zero_add] at this
    rw [this, Option.bind_some, if_pos (by omega), if_pos (by omega), e4, e5, Int.emod_eq_of_lt (by omega) (by omega)]
    rfl
theorem long_of (a0 a1 a2 a3 a4 a5 a6 a7 a8 : Int) (a9 : Bool) : ZD.spec_PacketLong.f a0 a1 a2 a3 a4 a5 a6 a7 a8 a9 = some (longOf a9 a0) := by
  unfold ZD.spec_PacketLong.f ZD.spec_packetLong.f longOf
  cases a9 <;> simp
theorem equal_self (l : List Int) : bytes_Equal.f l l = some true := by unfold bytes_Equal.f; simp
theorem FnPacketDataRead (a0 a1 a2 a3 a4 a5 a6 a7 a8 : Int) (a9 : Bool) (w0 : (Lit.int .u16 a0).wf = true) (w1 : (Lit.int .u16 a1).wf = true) (w2 : (Lit.int .u16 a2).wf = true) (w3 : (Lit.int .u16 a3).wf = true) (w4 : (Lit.int .u16 a4).wf = true) (w5 : (Lit.int .u8 a5).wf = true) (w6 : (Lit.int .u8 a6).wf = true) (w7 : (Lit.int .u32 a7).wf = true) (w8 : (Lit.int .u32 a8).wf = true)
    (l : List Int) (hm : l.length ≤ maxLen) (hy : l.length * 1 ≤ 140737488351232) (hw : ∀ x ∈ l, (Lit.int .u8 x).wf = true) :
    ∃ k, ZD.laws_FnPacketDataRead.f k a0 a1 a2 a3 a4 a5 a6 a7 a8 a9 l = some true := by
  have hb := byt_of hw
  refine ⟨5 + 1, ?_⟩
  unfold ZD.laws_FnPacketDataRead.f
  by_cases h1 : (l.length : Int) > 2147483647
  · rw [if_pos h1]
  · rw [if_neg h1]
    by_cases h2 : (l.length : Int) > 3000
    · rw [if_pos h2]; rfl
    · have hc : bytes_Clone.f l = some l := by unfold bytes_Clone.f; rw [if_pos (by omega)]
      rw [if_neg h2, hc, Option.bind_some]
      have e4 : rd l 4 = l.getD 4 0 := rfl
      by_cases h10 : 10 ≤ l.length
      · by_cases h6 : l.getD 4 0 = 6
        · have hr : impl_DataRead.f a0 a1 a2 a3 a4 a5 a6 a7 a8 a9 l = some (lenOf (longOf a9 a0) l, 6, l.getD 5 0, 10, l.getD 8 0 * 256 + l.getD 9 0, l.drop 10, true) := by
            unfold impl_DataRead.f
            rw [if_pos ⟨hb, by omega⟩, if_pos ⟨h10, h6⟩]
          obtain ⟨p0, p1⟩ := hb.get 8
          obtain ⟨q0, q1⟩ := hb.get 9
          have g2 : spec_PacketGet.f 5 l 8 2 = some (l.getD 8 0 * 256 + l.getD (8 + 1) 0) := get2 2 l 8 (by omega) (by omega) hb
          have hwr : IntKind.u16.wrap (l.getD 8 0 * 256 + l.getD (8 + 1) 0) = l.getD 8 0 * 256 + l.getD 9 0 := u16_wrap_id _ (by simp only [Nat.reduceAdd]; omega) (by simp only [Nat.reduceAdd]; omega)
          rw [hr, Option.bind_some, if_neg (by omega), if_pos (by omega), e4, h6]
          rw [ZD.laws_FnPacketDataRead.j0]
          rw [if_neg (by decide), if_pos rfl]
          rw [g2, Option.bind_some, hwr, if_pos rfl, if_pos (by omega), equal_self, Option.bind_some, if_pos rfl, long_of, Option.bind_some, head_of 0 _ l 10 (by omega) (by omega) hb, Option.bind_some]
          rw [if_pos (by simp only [h6, beq_self_eq_true, Bool.and_self])]
          rfl
        · have hr : impl_DataRead.f a0 a1 a2 a3 a4 a5 a6 a7 a8 a9 l = some (0, 0, 0, 0, 0, [], false) := by
            unfold impl_DataRead.f
            rw [if_pos ⟨hb, by omega⟩, if_neg (fun h => h6 h.2)]
          have e : ((l.getD 4 0) != 6) = true := by rw [bne_iff_ne]; exact h6
          rw [hr, Option.bind_some, if_neg (by omega), if_pos (by omega), e4, e]
          rw [ZD.laws_FnPacketDataRead.j0]
          rw [if_pos rfl, if_neg (by decide)]
          rfl
      · have hr : impl_DataRead.f a0 a1 a2 a3 a4 a5 a6 a7 a8 a9 l = some (0, 0, 0, 0, 0, [], false) := by
          unfold impl_DataRead.f
          rw [if_pos ⟨hb, by omega⟩, if_neg (fun h => h10 h.1)]
        rw [hr, Option.bind_some, if_pos (by omega)]
        rw [ZD.laws_FnPacketDataRead.j0]
        rw [if_pos rfl, if_neg (by decide)]
        rfl
end Go.Proofs.YtpacjdlgnoiheaaDoor.Pure
