-- Written by a program of this session (wip/xprint.py), which calls the kit's print.
import Derived.Test.YtpacjdlgnoiheaaDoorProg
import Derived.Test.YtpacjdlgnoiheaaDoorKit
import Derived.Below
import Derived.Deep.Draws
import Derived.Deep.AppendLies
import Derived.Maps.AppendAt
import Derived.OwnWalk
import Derived.Laws.BytesArg
import Derived.Laws.MakeOwn
import Derived.Laws.OwnMore
import Derived.Deep.OwnRows
import Derived.Tactics
import Derived.Lib.ConvBytes
import Derived.Laws.Slices
import Derived.WalkKit
import Derived.KernelRfl
import Derived.RowKit3
import Derived.Deep.LoopGhost
import Derived.Deep.QuietTactic
import Derived.BigQuiet
import Derived.WideLaws
import Derived.Deep.DeepCutAuto
import Derived.Deep.CutBlock
import Derived.Deep.RegionHeld3
import Derived.Laws.Rows
import Derived.Lib.AppendStr
import Derived.ArgAppend
import Derived.Laws.IdiomCopy
import Derived.OrdersHeld
import Derived.Laws.BitsLemmas
import Derived.RowKit
import Derived.Laws.Runes
import Derived.Test.YtpacjdlgnoiheaaDoorWWords
import Derived.Test.YtpacjdlgnoiheaaDoorWLast
import Derived.Test.YtpacjdlgnoiheaaDoorWTab
import Derived.Test.YtpacjdlgnoiheaaDoorWFour
import Derived.Test.YtpacjdlgnoiheaaDoorWQPut
import Derived.Test.YtpacjdlgnoiheaaDoorWApart
import Derived.Test.YtpacjdlgnoiheaaDoorWArr
import Derived.Test.YtpacjdlgnoiheaaDoorWZeros
import Derived.Test.YtpacjdlgnoiheaaDoorWFoot
import Derived.Test.YtpacjdlgnoiheaaDoorWKept
import Derived.Test.YtpacjdlgnoiheaaDoorWShare
import Derived.Test.YtpacjdlgnoiheaaDoorWN
import Derived.Test.YtpacjdlgnoiheaaDoorWFootNe
import Derived.Test.YtpacjdlgnoiheaaDoorWAt
import Derived.Test.YtpacjdlgnoiheaaDoorWEqStruct
import Derived.Test.YtpacjdlgnoiheaaDoorWRepsOne
import Derived.Test.YtpacjdlgnoiheaaDoorWInv
import Derived.Test.YtpacjdlgnoiheaaDoorWInvWords
import Derived.Test.YtpacjdlgnoiheaaDoorWGuard
import Derived.Test.YtpacjdlgnoiheaaDoorWNEv
import Derived.Test.YtpacjdlgnoiheaaDoorWMore
namespace Go.Proofs.YtpacjdlgnoiheaaDoor.ZS
open Go.RowKit Go.Proofs.YtpacjdlgnoiheaaDoor.X Go.Proofs.YtpacjdlgnoiheaaDoorW.PrintWords Go.Proofs.YtpacjdlgnoiheaaDoorW.PrintLast Go.Proofs.YtpacjdlgnoiheaaDoorW.PrintMore
attribute [local go_sem] max2_int min2_int max_two min_two max_three min_three max_four min_four   -- for this text's walks alone
set_option linter.unusedVariables false
set_option linter.unusedSimpArgs false



def errW : Option Int → Value
  | none => .nilIface
  | some c => .iface 0 (.int .i64 c)
theorem errW_none : errW none = .nilIface := rfl
theorem errW_some (c : Int) : errW (some c) = .iface 0 (.int .i64 c) := rfl

-- the values' own types
def rd_L1 (xs : List (List Int)) (i : Int) : (List Int) := xs.getD i.toNat ([] : List Int)
theorem at_L1 {w : World} {A : Option Addr} {n : Nat} {xs : List (List Int)} (h : Kd.C (Kd.slice 5 (Kd.int .u8)) w A n xs) (i : Int) (h0 : 0 ≤ i) (h1 : i < n) : ∃ ad A0 c0, A = some ad ∧ w.cell? (ad.add i.toNat) = some (.slice A0 (rd_L1 xs i).length c0) ∧ (rd_L1 xs i).length ≤ c0 ∧ (Kd.int .u8).C w A0 (rd_L1 xs i).length (rd_L1 xs i) := by
  obtain ⟨ad, c, e, _, hK, hc0⟩ := Kd.C_get h ([] : List Int) i h0 h1
  have hc : ∀ j u, c[j]? = some u → w.cell? (ad.add (i.toNat * 1 + j)) = some u := hc0
  obtain ⟨A0, c0, rfl, l0, g0⟩ := hK
  exact ⟨ad, A0, c0, e, by have hq := hc 0 _ rfl; rwa [Nat.mul_one, Nat.add_zero] at hq, l0, g0⟩

/-! #### struct type 34 -/
structure S34 where
  f0 : Int
  f1 : Int
  f2 : Int
  f3 : Int
  f4 : Int
  f5 : Int
  f6 : Int
  f7 : Int
  f8 : Int
  f9 : Bool
def z34 : S34 := ⟨(0 : Int), (0 : Int), (0 : Int), (0 : Int), (0 : Int), (0 : Int), (0 : Int), (0 : Int), (0 : Int), false⟩
def k34 : Kd S34 := Kd.iso (Kd.pair (Kd.int .u16) (Kd.pair (Kd.int .u16) (Kd.pair (Kd.int .u16) (Kd.pair (Kd.int .u16) (Kd.pair (Kd.int .u16) (Kd.pair (Kd.int .u8) (Kd.pair (Kd.int .u8) (Kd.pair (Kd.int .u32) (Kd.pair (Kd.int .u32) Kd.bool))))))))) (fun x : S34 => (x.f0, x.f1, x.f2, x.f3, x.f4, x.f5, x.f6, x.f7, x.f8, x.f9))
theorem k34_open {w : World} {x : S34} {cs : List Value} (h : k34.K w x cs) : cs = [.int .u16 x.f0, .int .u16 x.f1, .int .u16 x.f2, .int .u16 x.f3, .int .u16 x.f4, .int .u8 x.f5, .int .u8 x.f6, .int .u32 x.f7, .int .u32 x.f8, .bool x.f9] := by
  obtain ⟨_, _, rfl, rfl, ⟨_, _, rfl, rfl, ⟨_, _, rfl, rfl, ⟨_, _, rfl, rfl, ⟨_, _, rfl, rfl, ⟨_, _, rfl, rfl, ⟨_, _, rfl, rfl, ⟨_, _, rfl, rfl, ⟨_, _, rfl, rfl, rfl⟩⟩⟩⟩⟩⟩⟩⟩⟩ := h
  exact rfl
theorem k34_openM {w : World} {base : Nat} {ok : Nat → Prop} {x : S34} {cs : List Value} (h : k34.M w base ok x cs) : cs = [.int .u16 x.f0, .int .u16 x.f1, .int .u16 x.f2, .int .u16 x.f3, .int .u16 x.f4, .int .u8 x.f5, .int .u8 x.f6, .int .u32 x.f7, .int .u32 x.f8, .bool x.f9] := by
  obtain ⟨_, _, rfl, rfl, ⟨_, _, rfl, rfl, ⟨_, _, rfl, rfl, ⟨_, _, rfl, rfl, ⟨_, _, rfl, rfl, ⟨_, _, rfl, rfl, ⟨_, _, rfl, rfl, ⟨_, _, rfl, rfl, ⟨_, _, rfl, rfl, rfl⟩⟩⟩⟩⟩⟩⟩⟩⟩ := h
  exact rfl
theorem k34_mk (w : World) (x : S34)  : k34.K w x [.int .u16 x.f0, .int .u16 x.f1, .int .u16 x.f2, .int .u16 x.f3, .int .u16 x.f4, .int .u8 x.f5, .int .u8 x.f6, .int .u32 x.f7, .int .u32 x.f8, .bool x.f9] := ⟨[.int .u16 x.f0], [.int .u16 x.f1, .int .u16 x.f2, .int .u16 x.f3, .int .u16 x.f4, .int .u8 x.f5, .int .u8 x.f6, .int .u32 x.f7, .int .u32 x.f8, .bool x.f9], rfl, rfl, ⟨[.int .u16 x.f1], [.int .u16 x.f2, .int .u16 x.f3, .int .u16 x.f4, .int .u8 x.f5, .int .u8 x.f6, .int .u32 x.f7, .int .u32 x.f8, .bool x.f9], rfl, rfl, ⟨[.int .u16 x.f2], [.int .u16 x.f3, .int .u16 x.f4, .int .u8 x.f5, .int .u8 x.f6, .int .u32 x.f7, .int .u32 x.f8, .bool x.f9], rfl, rfl, ⟨[.int .u16 x.f3], [.int .u16 x.f4, .int .u8 x.f5, .int .u8 x.f6, .int .u32 x.f7, .int .u32 x.f8, .bool x.f9], rfl, rfl, ⟨[.int .u16 x.f4], [.int .u8 x.f5, .int .u8 x.f6, .int .u32 x.f7, .int .u32 x.f8, .bool x.f9], rfl, rfl, ⟨[.int .u8 x.f5], [.int .u8 x.f6, .int .u32 x.f7, .int .u32 x.f8, .bool x.f9], rfl, rfl, ⟨[.int .u8 x.f6], [.int .u32 x.f7, .int .u32 x.f8, .bool x.f9], rfl, rfl, ⟨[.int .u32 x.f7], [.int .u32 x.f8, .bool x.f9], rfl, rfl, ⟨[.int .u32 x.f8], [.bool x.f9], rfl, rfl, rfl⟩⟩⟩⟩⟩⟩⟩⟩⟩
theorem k34_mkM (w : World) (base : Nat) (ok : Nat → Prop) (x : S34)  : k34.M w base ok x [.int .u16 x.f0, .int .u16 x.f1, .int .u16 x.f2, .int .u16 x.f3, .int .u16 x.f4, .int .u8 x.f5, .int .u8 x.f6, .int .u32 x.f7, .int .u32 x.f8, .bool x.f9] := ⟨[.int .u16 x.f0], [.int .u16 x.f1, .int .u16 x.f2, .int .u16 x.f3, .int .u16 x.f4, .int .u8 x.f5, .int .u8 x.f6, .int .u32 x.f7, .int .u32 x.f8, .bool x.f9], rfl, rfl, ⟨[.int .u16 x.f1], [.int .u16 x.f2, .int .u16 x.f3, .int .u16 x.f4, .int .u8 x.f5, .int .u8 x.f6, .int .u32 x.f7, .int .u32 x.f8, .bool x.f9], rfl, rfl, ⟨[.int .u16 x.f2], [.int .u16 x.f3, .int .u16 x.f4, .int .u8 x.f5, .int .u8 x.f6, .int .u32 x.f7, .int .u32 x.f8, .bool x.f9], rfl, rfl, ⟨[.int .u16 x.f3], [.int .u16 x.f4, .int .u8 x.f5, .int .u8 x.f6, .int .u32 x.f7, .int .u32 x.f8, .bool x.f9], rfl, rfl, ⟨[.int .u16 x.f4], [.int .u8 x.f5, .int .u8 x.f6, .int .u32 x.f7, .int .u32 x.f8, .bool x.f9], rfl, rfl, ⟨[.int .u8 x.f5], [.int .u8 x.f6, .int .u32 x.f7, .int .u32 x.f8, .bool x.f9], rfl, rfl, ⟨[.int .u8 x.f6], [.int .u32 x.f7, .int .u32 x.f8, .bool x.f9], rfl, rfl, ⟨[.int .u32 x.f7], [.int .u32 x.f8, .bool x.f9], rfl, rfl, ⟨[.int .u32 x.f8], [.bool x.f9], rfl, rfl, rfl⟩⟩⟩⟩⟩⟩⟩⟩⟩
def rd_T34 (xs : List S34) (i : Int) : S34 := xs.getD i.toNat z34
theorem at_T34 {w : World} {A : Option Addr} {n : Nat} {xs : List S34} (h : Kd.C k34 w A n xs) (i : Int) (h0 : 0 ≤ i) (h1 : i < n) : ∃ ad , A = some ad ∧ w.cell? (ad.add (i.toNat * 10)) = some (.int .u16 (rd_T34 xs i).f0) ∧ w.cell? ⟨(ad.add (i.toNat * 10)).block, (ad.add (i.toNat * 10)).off + 1, none⟩ = some (.int .u16 (rd_T34 xs i).f1) ∧ w.cell? ⟨(ad.add (i.toNat * 10)).block, (ad.add (i.toNat * 10)).off + 2, none⟩ = some (.int .u16 (rd_T34 xs i).f2) ∧ w.cell? ⟨(ad.add (i.toNat * 10)).block, (ad.add (i.toNat * 10)).off + 3, none⟩ = some (.int .u16 (rd_T34 xs i).f3) ∧ w.cell? ⟨(ad.add (i.toNat * 10)).block, (ad.add (i.toNat * 10)).off + 4, none⟩ = some (.int .u16 (rd_T34 xs i).f4) ∧ w.cell? ⟨(ad.add (i.toNat * 10)).block, (ad.add (i.toNat * 10)).off + 5, none⟩ = some (.int .u8 (rd_T34 xs i).f5) ∧ w.cell? ⟨(ad.add (i.toNat * 10)).block, (ad.add (i.toNat * 10)).off + 6, none⟩ = some (.int .u8 (rd_T34 xs i).f6) ∧ w.cell? ⟨(ad.add (i.toNat * 10)).block, (ad.add (i.toNat * 10)).off + 7, none⟩ = some (.int .u32 (rd_T34 xs i).f7) ∧ w.cell? ⟨(ad.add (i.toNat * 10)).block, (ad.add (i.toNat * 10)).off + 8, none⟩ = some (.int .u32 (rd_T34 xs i).f8) ∧ w.cell? ⟨(ad.add (i.toNat * 10)).block, (ad.add (i.toNat * 10)).off + 9, none⟩ = some (.bool (rd_T34 xs i).f9) := by
  obtain ⟨ad, c, e, _, hK, hc0⟩ := Kd.C_get h z34 i h0 h1
  have hc : ∀ j u, c[j]? = some u → w.cell? (ad.add (i.toNat * 10 + j)) = some u := hc0
  obtain rfl := k34_open hK
  exact ⟨ad, e, hc 0 _ rfl, by rw [← add_field _ _ 1 (by omega)]; exact hc 1 _ rfl, by rw [← add_field _ _ 2 (by omega)]; exact hc 2 _ rfl, by rw [← add_field _ _ 3 (by omega)]; exact hc 3 _ rfl, by rw [← add_field _ _ 4 (by omega)]; exact hc 4 _ rfl, by rw [← add_field _ _ 5 (by omega)]; exact hc 5 _ rfl, by rw [← add_field _ _ 6 (by omega)]; exact hc 6 _ rfl, by rw [← add_field _ _ 7 (by omega)]; exact hc 7 _ rfl, by rw [← add_field _ _ 8 (by omega)]; exact hc 8 _ rfl, by rw [← add_field _ _ 9 (by omega)]; exact hc 9 _ rfl⟩

/-! #### struct type 28 -/
structure S28 where
  f0 : Int
  f1 : Int
  f2 : Int
  f3 : Int
def z28 : S28 := ⟨(0 : Int), (0 : Int), (0 : Int), (0 : Int)⟩
def k28 : Kd S28 := Kd.iso (Kd.pair (Kd.int .u32) (Kd.pair (Kd.int .u8) (Kd.pair (Kd.int .u8) (Kd.int .u16)))) (fun x : S28 => (x.f0, x.f1, x.f2, x.f3))
theorem k28_open {w : World} {x : S28} {cs : List Value} (h : k28.K w x cs) : cs = [.int .u32 x.f0, .int .u8 x.f1, .int .u8 x.f2, .int .u16 x.f3] := by
  obtain ⟨_, _, rfl, rfl, ⟨_, _, rfl, rfl, ⟨_, _, rfl, rfl, rfl⟩⟩⟩ := h
  exact rfl
theorem k28_openM {w : World} {base : Nat} {ok : Nat → Prop} {x : S28} {cs : List Value} (h : k28.M w base ok x cs) : cs = [.int .u32 x.f0, .int .u8 x.f1, .int .u8 x.f2, .int .u16 x.f3] := by
  obtain ⟨_, _, rfl, rfl, ⟨_, _, rfl, rfl, ⟨_, _, rfl, rfl, rfl⟩⟩⟩ := h
  exact rfl
theorem k28_mk (w : World) (x : S28)  : k28.K w x [.int .u32 x.f0, .int .u8 x.f1, .int .u8 x.f2, .int .u16 x.f3] := ⟨[.int .u32 x.f0], [.int .u8 x.f1, .int .u8 x.f2, .int .u16 x.f3], rfl, rfl, ⟨[.int .u8 x.f1], [.int .u8 x.f2, .int .u16 x.f3], rfl, rfl, ⟨[.int .u8 x.f2], [.int .u16 x.f3], rfl, rfl, rfl⟩⟩⟩
theorem k28_mkM (w : World) (base : Nat) (ok : Nat → Prop) (x : S28)  : k28.M w base ok x [.int .u32 x.f0, .int .u8 x.f1, .int .u8 x.f2, .int .u16 x.f3] := ⟨[.int .u32 x.f0], [.int .u8 x.f1, .int .u8 x.f2, .int .u16 x.f3], rfl, rfl, ⟨[.int .u8 x.f1], [.int .u8 x.f2, .int .u16 x.f3], rfl, rfl, ⟨[.int .u8 x.f2], [.int .u16 x.f3], rfl, rfl, rfl⟩⟩⟩
def rd_T28 (xs : List S28) (i : Int) : S28 := xs.getD i.toNat z28
theorem at_T28 {w : World} {A : Option Addr} {n : Nat} {xs : List S28} (h : Kd.C k28 w A n xs) (i : Int) (h0 : 0 ≤ i) (h1 : i < n) : ∃ ad , A = some ad ∧ w.cell? (ad.add (i.toNat * 4)) = some (.int .u32 (rd_T28 xs i).f0) ∧ w.cell? ⟨(ad.add (i.toNat * 4)).block, (ad.add (i.toNat * 4)).off + 1, none⟩ = some (.int .u8 (rd_T28 xs i).f1) ∧ w.cell? ⟨(ad.add (i.toNat * 4)).block, (ad.add (i.toNat * 4)).off + 2, none⟩ = some (.int .u8 (rd_T28 xs i).f2) ∧ w.cell? ⟨(ad.add (i.toNat * 4)).block, (ad.add (i.toNat * 4)).off + 3, none⟩ = some (.int .u16 (rd_T28 xs i).f3) := by
  obtain ⟨ad, c, e, _, hK, hc0⟩ := Kd.C_get h z28 i h0 h1
  have hc : ∀ j u, c[j]? = some u → w.cell? (ad.add (i.toNat * 4 + j)) = some u := hc0
  obtain rfl := k28_open hK
  exact ⟨ad, e, hc 0 _ rfl, by rw [← add_field _ _ 1 (by omega)]; exact hc 1 _ rfl, by rw [← add_field _ _ 2 (by omega)]; exact hc 2 _ rfl, by rw [← add_field _ _ 3 (by omega)]; exact hc 3 _ rfl⟩

end Go.Proofs.YtpacjdlgnoiheaaDoor.ZS
