/- Plain: what steps of servers give, and that the reference gives the same where it says something. -/
import Derived.Test.YtgjjmhhdncmigaaDoorKit
import Derived.Test.YtgjjmhhdncmigaaDoorCf
namespace Go.Proofs.YtgjjmhhdncmigaaDoor.X
open Go.RowKit Go.Proofs.YtgjjmhhdncmigaaDoorW.PrintWords Go.Proofs.YtgjjmhhdncmigaaDoorW.PrintMore
set_option linter.unusedVariables false
namespace Sv
/-- A server: protocol, address, port. -/
abbrev Srv := ByteArray × ByteArray × Int
/-- A step: kind, and a server. -/
abbrev Stp := Int × ByteArray × ByteArray × Int
def noSrv : Srv := (ByteArray.empty, ByteArray.empty, 0)
/-- A server whose texts are short, and whose address has ASCII characters alone. -/
def Ok (s : Srv) : Prop := s.1.size ≤ 300 ∧ s.2.1.size ≤ 300 ∧ ∀ x ∈ bytesOf s.2.1, x < 128
/-- A text's bytes with small letters. -/
def lowT (s : ByteArray) : List Int := (bytesOf s).map lowc
/-- Two servers are one. -/
def same (a b : Srv) : Bool := decide (a.2.2 = b.2.2) && decide (lowT a.2.1 = lowT b.2.1)
def has (all : List Srv) (s : Srv) : Bool := all.any (fun y => same y s)
def nxt (S : List Srv × Nat) (x : Stp) : List Srv × Nat :=
  if x.1 = 0 then (if has S.1 x.2 then S.1 else S.1 ++ [x.2], S.2)
  else if x.1 = 2 then (S.1, S.2 + 1)
  else if x.1 = 3 then (S.1, 0)
  else S
def tel (S : List Srv × Nat) (x : Stp) : Option Srv :=
  if x.1 = 1 then S.1[S.2]? else if x.1 = 2 then S.1[S.2 + 1]? else none
/-- Of this step the reference says nothing. -/
def bad (S : List Srv × Nat) (x : Stp) : Bool :=
  if x.1 = 0 then (!has S.1 x.2 && decide (0 < S.2) && decide (S.1.length ≤ S.2))
  else if x.1 = 2 then decide (S.1.length ≤ S.2)
  else false
def st (l : List Stp) : List Srv × Nat := l.foldl nxt ([], 0)
def outs : List Srv × Nat → List Stp → List (Option Srv)
  | _, [] => []
  | S, x :: l => tel S x :: outs (nxt S x) l
def ots (l : List Stp) : List (Option Srv) := outs ([], 0) l
def gots (l : List Stp) : List Srv := (ots l).map (fun o => o.getD noSrv)
def oks (l : List Stp) : List Bool := (ots l).map Option.isSome
theorem outs_snoc : ∀ (l : List Stp) (S : List Srv × Nat) (x : Stp), outs S (l ++ [x]) = outs S l ++ [tel (l.foldl nxt S) x]
  | [], S, x => rfl
  | y :: l, S, x => by simp [outs, outs_snoc l]
theorem st_snoc (l : List Stp) (x : Stp) : st (l ++ [x]) = nxt (st l) x := by simp [st, List.foldl_append]
theorem ots_snoc (l : List Stp) (x : Stp) : ots (l ++ [x]) = ots l ++ [tel (st l) x] := outs_snoc l _ x
theorem gots_snoc (l : List Stp) (x : Stp) : gots (l ++ [x]) = gots l ++ [(tel (st l) x).getD noSrv] := by simp [gots, ots_snoc]
theorem oks_snoc (l : List Stp) (x : Stp) : oks (l ++ [x]) = oks l ++ [(tel (st l) x).isSome] := by simp [oks, ots_snoc]
theorem outs_len : ∀ (l : List Stp) (S : List Srv × Nat), (outs S l).length = l.length
  | [], _ => rfl
  | x :: l, S => by simp [outs, outs_len l]
theorem gots_len (l : List Stp) : (gots l).length = l.length := by simp [gots, ots, outs_len]
theorem oks_len (l : List Stp) : (oks l).length = l.length := by simp [oks, ots, outs_len]
/-- How many servers there are. -/
theorem nxt_len (S : List Srv × Nat) (x : Stp) : (nxt S x).1.length ≤ S.1.length + 1 ∧ (nxt S x).2 ≤ S.2 + 1 := by
  unfold nxt
  split
  · constructor
    · dsimp only; split <;> simp
    · exact Nat.le_succ _
  · split
    · exact ⟨Nat.le_succ _, Nat.le_refl _⟩
    · split
      · exact ⟨Nat.le_succ _, Nat.zero_le _⟩
      · exact ⟨Nat.le_succ _, Nat.le_succ _⟩
theorem fold_len : ∀ (l : List Stp) (S : List Srv × Nat), (l.foldl nxt S).1.length ≤ S.1.length + l.length ∧ (l.foldl nxt S).2 ≤ S.2 + l.length
  | [], S => ⟨Nat.le_refl _, Nat.le_refl _⟩
  | x :: l, S => by
    have h := fold_len l (nxt S x)
    have k := nxt_len S x
    simp only [List.foldl_cons, List.length_cons]
    omega
theorem st_len (l : List Stp) : (st l).1.length ≤ l.length ∧ (st l).2 ≤ l.length := by
  have h := fold_len l ([], 0)
  simp only [List.length_nil, Nat.zero_add] at h
  exact h
/-- All that the servers are was in the steps. -/
theorem nxt_mem {P : Srv → Prop} (S : List Srv × Nat) (x : Stp) (hS : ∀ s ∈ S.1, P s) (hx : P x.2) : ∀ s ∈ (nxt S x).1, P s := by
  unfold nxt
  split
  · dsimp only
    split
    · exact hS
    · intro s hs
      rcases List.mem_append.1 hs with h | h
      · exact hS s h
      · rw [List.mem_singleton.1 h]; exact hx
  · split
    · exact hS
    · split <;> exact hS
theorem fold_mem {P : Srv → Prop} : ∀ (l : List Stp) (S : List Srv × Nat), (∀ s ∈ S.1, P s) → (∀ x ∈ l, P x.2) → ∀ s ∈ (l.foldl nxt S).1, P s
  | [], S, hS, _ => hS
  | x :: l, S, hS, hl => fold_mem l (nxt S x) (nxt_mem S x hS (hl x (by simp))) (fun y hy => hl y (by simp [hy]))
theorem st_mem {P : Srv → Prop} (l : List Stp) (hl : ∀ x ∈ l, P x.2) : ∀ s ∈ (st l).1, P s := fold_mem l _ (fun s hs => absurd hs (by simp)) hl
/-- Asking between the steps. -/
def asking (l : List Stp) : List Stp := l.flatMap (fun x => [x, (1, ByteArray.empty, ByteArray.empty, 0)])
theorem nxt_ask (S : List Srv × Nat) : nxt S (1, ByteArray.empty, ByteArray.empty, 0) = S := rfl
theorem fold_asking : ∀ (l : List Stp) (S : List Srv × Nat), (asking l).foldl nxt S = l.foldl nxt S
  | [], _ => rfl
  | x :: l, S => by
    have h := fold_asking l (nxt S x)
    simp only [asking, List.flatMap_cons, List.foldl_append, List.foldl_cons, List.foldl_nil, nxt_ask] at h ⊢
    exact h
theorem st_asking (l : List Stp) : st (asking l) = st l := fold_asking l _
theorem asking_len (l : List Stp) : (asking l).length = 2 * l.length := by
  induction l with
  | nil => rfl
  | cons x l ih => simp only [asking, List.flatMap_cons, List.length_append, List.length_cons, List.length_nil] at ih ⊢; omega
theorem outs_asking : ∀ (l : List Stp) (S : List Srv × Nat) (i : Nat), (outs S (asking l))[2 * i]? = (outs S l)[i]?
  | [], S, i => by simp [asking, outs]
  | x :: l, S, 0 => by simp [asking, outs]
  | x :: l, S, i + 1 => by
    have h := outs_asking l (nxt S x) i
    have e : asking (x :: l) = x :: (1, ByteArray.empty, ByteArray.empty, 0) :: asking l := rfl
    rw [e, show 2 * (i + 1) = 2 * i + 1 + 1 by omega]
    simp only [outs, nxt_ask, List.getElem?_cons_succ]
    exact h
theorem oks_asking (l : List Stp) (i : Nat) : (oks (asking l))[2 * i]? = (oks l)[i]? := by simp [oks, ots, outs_asking]
theorem gots_asking (l : List Stp) (i : Nat) : (gots (asking l))[2 * i]? = (gots l)[i]? := by simp [gots, ots, outs_asking]
end Sv
end Go.Proofs.YtgjjmhhdncmigaaDoor.X
