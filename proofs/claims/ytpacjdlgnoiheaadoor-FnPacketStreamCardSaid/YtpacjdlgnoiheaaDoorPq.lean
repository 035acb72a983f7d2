/- spec.packetPut of two and of four bytes: what it leaves. -/
import Derived.Test.YtpacjdlgnoiheaaDoorPp
import Derived.Test.YtpacjdlgnoiheaaDoorPf
namespace Go.Proofs.YtpacjdlgnoiheaaDoor.X
open Go Go.RowKit Go.Proofs.YtpacjdlgnoiheaaDoorW.PrintWords Go.Proofs.YtpacjdlgnoiheaaDoorW.PrintLast Go.Proofs.YtpacjdlgnoiheaaDoorW.PrintMore
attribute [local go_sem] setCell_drewN alloc_drewN
set_option linter.unusedVariables false
theorem w64_in' (n : Int) (h : -9223372036854775808 ≤ n ∧ n ≤ 9223372036854775807) : wrap64 n = n := by unfold wrap64; omega
theorem put_step (k : Nat) (l : List Int) (a n i : Nat) (v : Int) (hi : i < n) (hn : n ≤ 8) (hl : a + n ≤ l.length) (hm : l.length ≤ 140737488355328) :
    spec_packetPut.l0 (k + 1) l (a : Int) (n : Int) v (i : Int) = spec_packetPut.l0 k (l.set (a + i) (v / 2 ^ (8 * (n - 1 - i)) % 256)) (a : Int) (n : Int) v ((i + 1 : Nat) : Int) := by
  have w1 : wrap64 ((n : Int) - 1) = (n : Int) - 1 := w64_in' _ (by omega)
  have w2 : wrap64 ((n : Int) - 1 - (i : Int)) = (n : Int) - 1 - i := w64_in' _ (by omega)
  have w3 : wrap64 (8 * ((n : Int) - 1 - i)) = ((8 * (n - 1 - i) : Nat) : Int) := by rw [w64_in' _ (by omega)]; omega
  have w4 : wrap64 ((a : Int) + i) = ((a + i : Nat) : Int) := by rw [w64_in' _ (by omega)]; omega
  have w5 : wrap64 ((i : Int) + 1) = ((i + 1 : Nat) : Int) := by rw [w64_in' _ (by omega)]; omega
  have hs : shr .u64 v ((8 * (n - 1 - i) : Nat) : Int) = v / 2 ^ (8 * (n - 1 - i)) := by
    unfold shr
    rw [Int.toNat_natCast, Nat.min_eq_left (by show _ ≤ 64; omega)]
  conv => lhs; unfold spec_packetPut.l0
  rw [if_pos (by omega), w1, w2, w3, w4, w5, hs, if_pos (by omega), if_pos (by omega), if_pos (by omega), Int.toNat_natCast]
theorem put_end (k : Nat) (l : List Int) (a n : Nat) (v : Int) : spec_packetPut.l0 (k + 1) l (a : Int) (n : Int) v (n : Int) = some l := by
  unfold spec_packetPut.l0
  rw [if_neg (by omega)]
theorem put2 (k : Nat) (l : List Int) (a : Nat) (v : Int) (hl : a + 2 ≤ l.length) (hm : l.length ≤ 140737488355328) (h0 : 0 ≤ v) (h1 : v ≤ 65535) :
    spec_packetPut.f (k + 3) l (a : Int) 2 v = some ((l.set a (v / 256)).set (a + 1) (v % 256)) := by
  have e := put_step (k + 2) l a 2 0 v (by omega) (by omega) hl hm
  have e2 := put_step (k + 1) (l.set (a + 0) (v / 2 ^ (8 * (2 - 1 - 0)) % 256)) a 2 1 v (by omega) (by omega) (by rw [List.length_set]; exact hl) (by rw [List.length_set]; exact hm)
  have e3 := put_end k ((l.set (a + 0) (v / 2 ^ (8 * (2 - 1 - 0)) % 256)).set (a + 1) (v / 2 ^ (8 * (2 - 1 - 1)) % 256)) a 2 v
  refine (e.trans (e2.trans e3)).trans ?_
  have f1 : v / 2 ^ (8 * (2 - 1 - 0)) % 256 = v / 256 := by show v / 256 % 256 = _; omega
  have f2 : v / 2 ^ (8 * (2 - 1 - 1)) % 256 = v % 256 := by show v / 1 % 256 = _; omega
  rw [f1, f2, Nat.add_zero]
/-- What a PutUint of the reference leaves: the row, of the call's own. -/
def RetOwn (B : Nat) (w0 : World) (v : Value) (l : List Int) (e : Ending) (w' : World) : Prop := e = .returned (.tuple #[]) ∧ Kd.R (Kd.int .u8) 5 w' B (fun _ => True) v l ∧ Below B w0 w'
theorem put2_calls (w0 w : World) (v : Value) (l : List Int) (a : Nat) (x : Int) (hB : Below w0.heap.size w0 w) (hR : Kd.R (Kd.int .u8) 5 w w0.heap.size (fun _ => True) v l) (hl : a + 2 ≤ l.length) (hm : l.length ≤ 140737488355328) (h0 : 0 ≤ x) (h1 : x ≤ 65535) :
    Calls Tryd.prog 24 #[v, .int .i64 (a : Int), .int .i64 2, .int .u64 x] w (RetOwn w0.heap.size w0 v ((l.set a (x / 256)).set (a + 1) (x % 256))) :=
  (spec_packetPut.calls 3 (fun _ => True) v l a 2 x _ w0 w hB hR (put2 0 l a x hl hm h0 h1)).mono fun e w' ⟨h1, h2, h3, _⟩ => ⟨h1, Kd.R_mono h2 (fun _ _ => trivial), h3⟩
theorem put4 (k : Nat) (l : List Int) (a : Nat) (v : Int) (hl : a + 4 ≤ l.length) (hm : l.length ≤ 140737488355328) (h0 : 0 ≤ v) (h1 : v ≤ 4294967295) :
    spec_packetPut.f (k + 5) l (a : Int) 4 v = some ((((l.set a (v / 16777216)).set (a + 1) (v / 65536 % 256)).set (a + 2) (v / 256 % 256)).set (a + 3) (v % 256)) := by
  have e := put_step (k + 4) l a 4 0 v (by omega) (by omega) hl hm
  have e2 := put_step (k + 3) (l.set (a + 0) (v / 2 ^ (8 * (4 - 1 - 0)) % 256)) a 4 1 v (by omega) (by omega) (by rw [List.length_set]; exact hl) (by rw [List.length_set]; exact hm)
  have e3 := put_step (k + 2) ((l.set (a + 0) (v / 2 ^ (8 * (4 - 1 - 0)) % 256)).set (a + 1) (v / 2 ^ (8 * (4 - 1 - 1)) % 256)) a 4 2 v (by omega) (by omega) (by simp only [List.length_set]; exact hl) (by simp only [List.length_set]; exact hm)
  have e4 := put_step (k + 1) (((l.set (a + 0) (v / 2 ^ (8 * (4 - 1 - 0)) % 256)).set (a + 1) (v / 2 ^ (8 * (4 - 1 - 1)) % 256)).set (a + 2) (v / 2 ^ (8 * (4 - 1 - 2)) % 256)) a 4 3 v (by omega) (by omega) (by simp only [List.length_set]; exact hl) (by simp only [List.length_set]; exact hm)
  have e5 := put_end k ((((l.set (a + 0) (v / 2 ^ (8 * (4 - 1 - 0)) % 256)).set (a + 1) (v / 2 ^ (8 * (4 - 1 - 1)) % 256)).set (a + 2) (v / 2 ^ (8 * (4 - 1 - 2)) % 256)).set (a + 3) (v / 2 ^ (8 * (4 - 1 - 3)) % 256)) a 4 v
  refine (e.trans (e2.trans (e3.trans (e4.trans e5)))).trans ?_
  have f1 : v / 2 ^ (8 * (4 - 1 - 0)) % 256 = v / 16777216 := by show v / 16777216 % 256 = _; omega
  have f2 : v / 2 ^ (8 * (4 - 1 - 1)) % 256 = v / 65536 % 256 := rfl
  have f3 : v / 2 ^ (8 * (4 - 1 - 2)) % 256 = v / 256 % 256 := rfl
  have f4 : v / 2 ^ (8 * (4 - 1 - 3)) % 256 = v % 256 := by show v / 1 % 256 = _; omega
  rw [f1, f2, f3, f4, Nat.add_zero]
theorem put4_calls (w0 w : World) (v : Value) (l : List Int) (a : Nat) (x : Int) (hB : Below w0.heap.size w0 w) (hR : Kd.R (Kd.int .u8) 5 w w0.heap.size (fun _ => True) v l) (hl : a + 4 ≤ l.length) (hm : l.length ≤ 140737488355328) (h0 : 0 ≤ x) (h1 : x ≤ 4294967295) :
    Calls Tryd.prog 24 #[v, .int .i64 (a : Int), .int .i64 4, .int .u64 x] w (RetOwn w0.heap.size w0 v ((((l.set a (x / 16777216)).set (a + 1) (x / 65536 % 256)).set (a + 2) (x / 256 % 256)).set (a + 3) (x % 256))) :=
  (spec_packetPut.calls 5 (fun _ => True) v l a 4 x _ w0 w hB hR (put4 0 l a x hl hm h0 h1)).mono fun e w' ⟨h1, h2, h3, _⟩ => ⟨h1, Kd.R_mono h2 (fun _ _ => trivial), h3⟩
end Go.Proofs.YtpacjdlgnoiheaaDoor.X
