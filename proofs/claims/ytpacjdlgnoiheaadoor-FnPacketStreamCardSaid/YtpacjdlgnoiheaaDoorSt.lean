/- FnPacketStream: what its packets hold, in plain Lean. -/
import Derived.Test.YtpacjdlgnoiheaaDoorPt
import Derived.Test.YtpacjdlgnoiheaaDoorPe
namespace Go.Proofs.YtpacjdlgnoiheaaDoor.X
open Go Go.RowKit Go.Proofs.YtpacjdlgnoiheaaDoorW.PrintWords
set_option linter.unusedVariables false
def pkt (long : Bool) (d : List Int) : List Int := dataHead long ((d.length : Int) + 10) ++ d
def flat (long : Bool) (ls : List (List Int)) : List Int := (ls.map (pkt long)).flatten
theorem pkt_length (long : Bool) (d : List Int) : (pkt long d).length = d.length + 10 := by unfold pkt; rw [List.length_append, dataHead_length]; omega
theorem pkt_byt (long : Bool) (d : List Int) (hd : Byt d) (hl : d.length ≤ 1000) : Byt (pkt long d) := by
  intro x hx
  unfold pkt at hx
  rcases List.mem_append.1 hx with hx | hx
  · cases long <;> simp [dataHead] at hx <;> omega
  · exact hd x hx
theorem flat_cons (long : Bool) (d : List Int) (ls : List (List Int)) : flat long (d :: ls) = pkt long d ++ flat long ls := by simp [flat]
theorem flat_byt (long : Bool) : ∀ ls : List (List Int), (∀ d ∈ ls, Byt d ∧ d.length ≤ 1000) → Byt (flat long ls)
  | [], _ => fun x hx => by simp [flat] at hx
  | d :: ls, h => fun x hx => by
    rw [flat_cons] at hx
    rcases List.mem_append.1 hx with hx | hx
    · exact pkt_byt long d (h d (by simp)).1 (h d (by simp)).2 x hx
    · exact flat_byt long ls (fun d' hd' => h d' (by simp [hd'])) x hx
theorem flat_length (long : Bool) : ∀ ls : List (List Int), (∀ d ∈ ls, d.length ≤ 1000) → (flat long ls).length ≤ 1010 * ls.length
  | [], _ => by simp [flat]
  | d :: ls, h => by
    rw [flat_cons, List.length_append, pkt_length, List.length_cons]
    have := flat_length long ls (fun d' hd' => h d' (by simp [hd']))
    have := h d (by simp)
    omega
theorem flat_take (long : Bool) (ls : List (List Int)) (i : Nat) (h : i < ls.length) : flat long (ls.take i) ++ pkt long (ls.getD i []) = flat long (ls.take (i + 1)) := by
  unfold flat
  rw [List.take_succ_eq_append_getElem h, List.map_append, List.flatten_append]
  simp [List.getD_eq_getElem?_getD, List.getElem?_eq_getElem h]
theorem flat_drop (long : Bool) (ls : List (List Int)) (i : Nat) (h : i < ls.length) : flat long (ls.drop i) = pkt long (ls.getD i []) ++ flat long (ls.drop (i + 1)) := by
  rw [List.drop_eq_getElem_cons h, flat_cons]
  simp [List.getD_eq_getElem?_getD, List.getElem?_eq_getElem h]
theorem pkt_get (long : Bool) (d r : List Int) (j : Nat) (hj : j < 10) : (pkt long d ++ r).getD j 0 = (dataHead long ((d.length : Int) + 10)).getD j 0 := by
  have h1 := dataHead_length long ((d.length : Int) + 10)
  simp only [List.getD_eq_getElem?_getD, pkt, List.append_assoc]
  rw [List.getElem?_append_left (by omega)]
theorem pkt_size (long : Bool) (d r : List Int) (hd : d.length ≤ 1000) (hb : Byt (pkt long d ++ r)) (hl : (pkt long d ++ r).length ≤ 140737488355328) :
    spec_PacketGet.f 5 (pkt long d ++ r) 0 (if long then 4 else 2) = some ((d.length : Int) + 10) := by
  have hlen : 10 ≤ (pkt long d ++ r).length := by rw [List.length_append, pkt_length]; omega
  have g0 := pkt_get long d r 0 (by omega)
  have g1 := pkt_get long d r 1 (by omega)
  have g2' := pkt_get long d r 2 (by omega)
  have g3 := pkt_get long d r 3 (by omega)
  cases long
  · have := get2 2 (pkt false d ++ r) 0 (by omega) hl hb
    rw [show ((0 : Nat) : Int) = 0 from rfl] at this
    simp only [Nat.zero_add] at this
    rw [if_neg (by decide), this, g0, g1]
    have e0 : (dataHead false ((d.length : Int) + 10)).getD 0 0 = ((d.length : Int) + 10) % 65536 / 256 := rfl
    have e1 : (dataHead false ((d.length : Int) + 10)).getD 1 0 = ((d.length : Int) + 10) % 65536 % 256 := rfl
    rw [e0, e1]
    congr 1
    omega
  · have := get4 0 (pkt true d ++ r) 0 (by omega) hl hb
    rw [show ((0 : Nat) : Int) = 0 from rfl] at this
    simp only [Nat.zero_add] at this
    rw [if_pos rfl, this, g0, g1, g2', g3]
    have e0 : (dataHead true ((d.length : Int) + 10)).getD 0 0 = ((d.length : Int) + 10) / 16777216 := rfl
    have e1 : (dataHead true ((d.length : Int) + 10)).getD 1 0 = ((d.length : Int) + 10) / 65536 % 256 := rfl
    have e2 : (dataHead true ((d.length : Int) + 10)).getD 2 0 = ((d.length : Int) + 10) / 256 % 256 := rfl
    have e3 : (dataHead true ((d.length : Int) + 10)).getD 3 0 = ((d.length : Int) + 10) % 256 := rfl
    rw [e0, e1, e2, e3]
    congr 1
    omega
theorem pkt_read (a0 a1 a2 a3 a4 a5 a6 a7 a8 : Int) (a9 : Bool) (long : Bool) (d : List Int) (hd : Byt d) (hl : d.length ≤ 1000) :
    ∃ x y, impl_DataRead.f a0 a1 a2 a3 a4 a5 a6 a7 a8 a9 (pkt long d) = some (x, 6, y, 10, 0, d, true) := by
  have hn := pkt_length long d
  have g4 : (pkt long d).getD 4 0 = 6 := by cases long <;> rfl
  have g8 : (pkt long d).getD 8 0 * 256 + (pkt long d).getD 9 0 = 0 := by cases long <;> rfl
  have gd : (pkt long d).drop 10 = d := by cases long <;> rfl
  unfold impl_DataRead.f
  rw [if_pos ⟨pkt_byt long d hd hl, by omega⟩, if_pos ⟨by omega, g4⟩, g8, gd]
  exact ⟨_, _, rfl⟩
end Go.Proofs.YtpacjdlgnoiheaaDoor.X
