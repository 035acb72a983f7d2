/- spec.PacketGet of two and of four bytes, in plain Lean. -/
import Derived.Test.YtpacjdlgnoiheaaDoorPs
namespace Go.Proofs.YtpacjdlgnoiheaaDoor.X
open Go Go.RowKit Go.Proofs.YtpacjdlgnoiheaaDoorW.PrintWords Go.Proofs.YtpacjdlgnoiheaaDoorW.PrintMore
attribute [local go_sem] setCell_drewN alloc_drewN
set_option linter.unusedVariables false
theorem w64_in (n : Int) (h : -9223372036854775808 ≤ n ∧ n ≤ 9223372036854775807) : wrap64 n = n := by unfold wrap64; omega
theorem or_step (v x : Int) (hv : 0 ≤ v) (hv1 : v < 72057594037927936) (hx : 0 ≤ x) (hx1 : x ≤ 255) : Go.bits .or .u64 (IntKind.u64.wrap (v * 256)) (IntKind.u64.wrap x) = v * 256 + x := by
  rw [u64_wrap_id _ (by omega) (by omega), u64_wrap_id _ (by omega) (by omega)]
  exact bits_join .u64 64 (by decide) wraps_u64 8 (v * 256) x (by omega) (by omega) (by omega) (by omega) (by omega) (by omega)
theorem get_step (k : Nat) (v : Int) (sl : List Int) (i n : Nat) (hb : Byt sl) (hi : i < sl.length) (hn : sl.length = n) (hn2 : n ≤ 1000) (hv : 0 ≤ v) (hv1 : v < 72057594037927936) :
    spec_PacketGet.l0 (k + 1) v sl (n : Int) (i : Int) = spec_PacketGet.l0 k (v * 256 + sl.getD i 0) sl (n : Int) ((i + 1 : Nat) : Int) := by
  have hw : wrap64 ((i : Int) + 1) = ((i + 1 : Nat) : Int) := by rw [w64_in _ (by omega)]; omega
  have er : rd sl (i : Int) = sl.getD i 0 := by unfold rd; rw [Int.toNat_natCast]
  obtain ⟨h0, h1⟩ := hb.get i
  conv => lhs; unfold spec_PacketGet.l0
  rw [if_pos (by omega), if_pos (by omega), if_pos (by omega), hw, er, or_step v _ hv hv1 h0 h1]
theorem get_end (k : Nat) (v : Int) (sl : List Int) (n : Nat) : spec_PacketGet.l0 (k + 1) v sl (n : Int) (n : Int) = some v := by
  unfold spec_PacketGet.l0
  rw [if_neg (by omega)]
theorem get_sl (l : List Int) (at_ n : Nat) (h : at_ + n ≤ l.length) : ((l.take (at_ + n)).drop at_).length = n ∧ ∀ i, i < n → ((l.take (at_ + n)).drop at_).getD i 0 = l.getD (at_ + i) 0 := by
  refine ⟨by simp [List.length_drop, List.length_take]; omega, fun i hi => ?_⟩
  simp only [List.getD_eq_getElem?_getD, List.getElem?_drop, List.getElem?_take]
  rw [if_pos (by omega)]
theorem byt_sub {l : List Int} (h : Byt l) (a b : Nat) : Byt ((l.take b).drop a) := fun x hx => h x (List.mem_of_mem_take (List.mem_of_mem_drop hx))
theorem get_open (k : Nat) (l : List Int) (at_ n : Nat) (h : at_ + n ≤ l.length) (hl : l.length ≤ 140737488355328) :
    spec_PacketGet.f k l (at_ : Int) (n : Int) = spec_PacketGet.l0 k 0 ((l.take (at_ + n)).drop at_) (n : Int) ((0 : Nat) : Int) := by
  have hw : wrap64 ((at_ : Int) + (n : Int)) = ((at_ + n : Nat) : Int) := by rw [w64_in _ (by omega)]; omega
  unfold spec_PacketGet.f
  rw [hw, if_pos (by omega), if_pos (by omega), if_pos (by omega)]
  simp only [Int.toNat_natCast]
  rw [(get_sl l at_ n h).1]
  rfl
theorem get2 (k : Nat) (l : List Int) (at_ : Nat) (h : at_ + 2 ≤ l.length) (hl : l.length ≤ 140737488355328) (hb : Byt l) :
    spec_PacketGet.f (k + 3) l (at_ : Int) 2 = some (l.getD at_ 0 * 256 + l.getD (at_ + 1) 0) := by
  obtain ⟨h1, h2⟩ := get_sl l at_ 2 h
  have hbs := byt_sub hb at_ (at_ + 2)
  obtain ⟨p0, p1⟩ := hb.get at_
  obtain ⟨q0, q1⟩ := hb.get (at_ + 1)
  refine (get_open (k + 3) l at_ 2 h hl).trans ?_
  rw [get_step (k + 2) 0 _ 0 2 hbs (by omega) h1 (by omega) (by omega) (by omega), h2 0 (by omega),
    get_step (k + 1) _ _ 1 2 hbs (by omega) h1 (by omega) (by simp only [Nat.add_zero]; omega) (by simp only [Nat.add_zero]; omega), h2 1 (by omega), get_end]
  simp
theorem get4 (k : Nat) (l : List Int) (at_ : Nat) (h : at_ + 4 ≤ l.length) (hl : l.length ≤ 140737488355328) (hb : Byt l) :
    spec_PacketGet.f (k + 5) l (at_ : Int) 4 = some (((l.getD at_ 0 * 256 + l.getD (at_ + 1) 0) * 256 + l.getD (at_ + 2) 0) * 256 + l.getD (at_ + 3) 0) := by
  obtain ⟨h1, h2⟩ := get_sl l at_ 4 h
  have hbs := byt_sub hb at_ (at_ + 4)
  obtain ⟨p0, p1⟩ := hb.get at_
  obtain ⟨q0, q1⟩ := hb.get (at_ + 1)
  obtain ⟨r0, r1⟩ := hb.get (at_ + 2)
  obtain ⟨s0, s1⟩ := hb.get (at_ + 3)
  refine (get_open (k + 5) l at_ 4 h hl).trans ?_
  rw [get_step (k + 4) 0 _ 0 4 hbs (by omega) h1 (by omega) (by omega) (by omega), h2 0 (by omega),
    get_step (k + 3) _ _ 1 4 hbs (by omega) h1 (by omega) (by simp only [Nat.add_zero]; omega) (by simp only [Nat.add_zero]; omega), h2 1 (by omega),
    get_step (k + 2) _ _ 2 4 hbs (by omega) h1 (by omega) (by simp only [Nat.add_zero]; omega) (by simp only [Nat.add_zero]; omega), h2 2 (by omega),
    get_step (k + 1) _ _ 3 4 hbs (by omega) h1 (by omega) (by simp only [Nat.add_zero]; omega) (by simp only [Nat.add_zero]; omega), h2 3 (by omega), get_end]
  simp

end Go.Proofs.YtpacjdlgnoiheaaDoor.X
