/- The pure law of FnPacketMarker. -/
import Derived.Test.YtpacjdlgnoiheaaDoorPt
import Derived.Test.YtpacjdlgnoiheaaDoorZV
namespace Go.Proofs.YtpacjdlgnoiheaaDoor.Pure
open Go Go.RowKit Go.Proofs.YtpacjdlgnoiheaaDoor Go.Proofs.YtpacjdlgnoiheaaDoor.X Go.Proofs.YtpacjdlgnoiheaaDoorW.PrintWords Go.Proofs.YtpacjdlgnoiheaaDoorW.PrintLast Go.Proofs.YtpacjdlgnoiheaaDoorW.PrintMore
set_option linter.unusedVariables false
theorem rng {k : IntKind} {n : Int} (h : (Lit.int k n).wf = true) : k.min ≤ n ∧ n ≤ k.max := by
  simp only [Lit.wf, Bool.and_eq_true, decide_eq_true_eq] at h
  exact h
theorem head_of (k : Nat) (long : Bool) (l : List Int) (off : Int) (h6 : 6 ≤ l.length) (hl : l.length ≤ 140737488355328) (hb : Byt l) : ZV.spec_PacketHeadOf.f (k + 5) long l off = some (lenOf long l, l.getD 4 0, l.getD 5 0, off) := by
  obtain ⟨p0, p1⟩ := hb.get 0
  obtain ⟨q0, q1⟩ := hb.get 1
  obtain ⟨r0, r1⟩ := hb.get 2
  obtain ⟨s0, s1⟩ := hb.get 3
  have e4 : rd l 4 = l.getD 4 0 := rfl
  have e5 : rd l 5 = l.getD 5 0 := rfl
  unfold ZV.spec_PacketHeadOf.f
  cases long
  · rw [if_neg (by decide)]
    have := get2 (k + 2) l 0 (by omega) hl hb
    rw [show ((0 : Nat) : Int) = 0 from rfl] at this
    simp only [Nat.zero_add] at this
    rw [this, Option.bind_some, if_pos (by omega), if_pos (by omega), e4, e5, Int.emod_eq_of_lt (by omega) (by omega)]
    rfl
  · rw [if_pos rfl]
    have := get4 k l 0 (by omega) hl hb
    rw [show ((0 : Nat) : Int) = 0 from rfl] at this
    simp only [Nat.zero_add] at this
    rw [this, Option.bind_some, if_pos (by omega), if_pos (by omega), e4, e5, Int.emod_eq_of_lt (by omega) (by omega)]
    rfl
theorem long_of (a0 a1 a2 a3 a4 a5 a6 a7 a8 : Int) (a9 : Bool) : ZV.spec_PacketLong.f a0 a1 a2 a3 a4 a5 a6 a7 a8 a9 = some (longOf a9 a0) := by
  unfold ZV.spec_PacketLong.f ZV.spec_packetLong.f longOf
  cases a9 <;> simp
theorem equal_self (l : List Int) : bytes_Equal.f l l = some true := by unfold bytes_Equal.f; simp
theorem mark_len (b : Bool) (k : Int) : (markList b k).length = 11 := by cases b <;> rfl
theorem mark_byt (b : Bool) (k : Int) (h0 : 0 ≤ k) (h1 : k ≤ 255) : Byt (markList b k) := by
  intro x hx
  cases b <;> simp [markList] at hx <;> omega
theorem FnPacketMarker (a0 a1 a2 a3 a4 a5 a6 a7 a8 : Int) (a9 : Bool) (w0 : (Lit.int .u16 a0).wf = true) (w1 : (Lit.int .u16 a1).wf = true) (w2 : (Lit.int .u16 a2).wf = true) (w3 : (Lit.int .u16 a3).wf = true) (w4 : (Lit.int .u16 a4).wf = true) (w5 : (Lit.int .u8 a5).wf = true) (w6 : (Lit.int .u8 a6).wf = true) (w7 : (Lit.int .u32 a7).wf = true) (w8 : (Lit.int .u32 a8).wf = true)
    (k : Int) (wk : (Lit.int .u8 k).wf = true) : ∃ n, ZV.laws_FnPacketMarker.f n a0 a1 a2 a3 a4 a5 a6 a7 a8 a9 k = some true := by
  obtain ⟨h0, h1⟩ := rng wk
  replace h0 : 0 ≤ k := h0
  replace h1 : k ≤ 255 := h1
  have hb := mark_byt (longOf a9 a0) k h0 h1
  have hl := mark_len (longOf a9 a0) k
  have g4 : (markList (longOf a9 a0) k).getD 4 0 = 12 := by cases longOf a9 a0 <;> rfl
  have g10 : (markList (longOf a9 a0) k).getD 10 0 = k := by cases longOf a9 a0 <;> rfl
  have e1 : impl_MarkerBytes.f a0 a1 a2 a3 a4 a5 a6 a7 a8 a9 k = some (markList (longOf a9 a0) k) := rfl
  have e2 : bytes_Clone.f (markList (longOf a9 a0) k) = some (markList (longOf a9 a0) k) := by unfold bytes_Clone.f; rw [if_pos (by omega)]
  have e3 : impl_MarkerRead.f a0 a1 a2 a3 a4 a5 a6 a7 a8 a9 (markList (longOf a9 a0) k) = some (lenOf (longOf a9 a0) (markList (longOf a9 a0) k), 12, (markList (longOf a9 a0) k).getD 5 0, 0, k, true) := by
    unfold impl_MarkerRead.f
    rw [if_pos ⟨hb, by omega⟩, if_pos ⟨hl, g4⟩, g10]
  have e4 : spec_PacketMarker.f a0 a1 a2 a3 a4 a5 a6 a7 a8 a9 k = some (markList (longOf a9 a0) k) := rfl
  refine ⟨5, ?_⟩
  unfold ZV.laws_FnPacketMarker.f
  rw [e1, Option.bind_some, e2, Option.bind_some, e3, Option.bind_some, e4, Option.bind_some, equal_self, Option.bind_some, if_pos rfl, if_pos rfl, if_pos rfl, long_of, Option.bind_some, head_of 0 _ _ 0 (by omega) (by omega) hb, Option.bind_some, g4]
  rw [if_pos (by simp only [beq_self_eq_true, Bool.and_self])]
  rfl
end Go.Proofs.YtpacjdlgnoiheaaDoor.Pure
