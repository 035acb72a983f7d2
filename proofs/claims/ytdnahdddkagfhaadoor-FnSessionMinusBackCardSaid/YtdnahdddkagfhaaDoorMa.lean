/- A compressed number and the negative one, read by the second reader (kind 5), anywhere in the input. -/
import Derived.Test.YtdnahdddkagfhaaDoorMp
import Derived.Test.YtdnahdddkagfhaaDoorGk
import Derived.Test.YtdnahdddkagfhaaDoorGr
namespace Go.Proofs.YtdnahdddkagfhaaDoor.X
open Go.RowKit Go.Proofs.YtdnahdddkagfhaaDoorW.PrintWords Go.Proofs.YtdnahdddkagfhaaDoorW.PrintLast Go.Proofs.YtdnahdddkagfhaaDoorW.PrintMore
attribute [local go_sem] setCell_drewN alloc_drewN
set_option linter.unusedVariables false
set_option linter.unusedSimpArgs false
theorem Ses.p127 : ∀ m : Fin 9, Go.bits .and .u8 (m.val : Int) 127 = (m.val : Int) := by decide +kernel
theorem Ses.p128w : ∀ m : Fin 9, Go.bits .and .i64 (m.val : Int) 128 = 0 := by decide +kernel
theorem Ses.m127 : ∀ m : Fin 9, Go.bits .and .u8 (128 + (m.val : Int)) 127 = (m.val : Int) := by decide +kernel
theorem Ses.m128w : ∀ m : Fin 9, Go.bits .and .i64 (128 + (m.val : Int)) 128 = 128 := by decide +kernel
theorem Ses.m127w : ∀ m : Fin 9, Go.bits .and .i64 (128 + (m.val : Int)) 127 = (m.val : Int) := by decide +kernel
theorem Ses.raw_cells {sz e : Nat} {w : World} {base : Nat} {ok : Nat → Prop} {v : Value} {rows : List (List Value)} (h : (Kd.raw sz).R e w base ok v rows) (hp : 0 < rows.length) :
    ∃ g c, v = .slice (some ⟨g, 0, none⟩) rows.length c ∧ ∀ j p i u, rows[j]? = some p → p[i]? = some u → w.cell? ⟨g, j * sz + i, none⟩ = some u := by
  obtain ⟨g, cap, rfl, -, -, -⟩ := Kd.R_form h hp
  refine ⟨g, cap, rfl, fun j p i u hj hi => ?_⟩
  obtain ⟨-, -, hC⟩ := Kd.R_reads' h
  obtain ⟨ad, e, hc⟩ := hC.2.2 hp
  injection e with e
  subst e
  obtain ⟨c, hl, ⟨rfl, -, -⟩, hcell⟩ := hc j p hj
  have hx := hcell i u hi
  unfold Addr.add at hx
  split at hx
  · rename_i hz
    have hz' : j * sz + i = 0 := by simpa [Kd.raw] using hz
    rw [hz']
    exact hx
  · simpa [Kd.raw] using hx
theorem got5_plus (N : Int) (ds : List Int) (d1 : ds.length ≤ 8) (d2 : ∀ d ∈ ds, 0 ≤ d ∧ d ≤ 255) (d3 : Ses.digs ds = N) (hN : 0 ≤ N ∧ N < 9223372036854775808) (W : World) (b g c : Nat) (l : List Int) (idx : Nat) (hx : l.getD idx 0 = (ds.length : Int)) (hlen : idx + 1 + ds.length ≤ l.length) (hd : (l.drop (idx + 1)).take ds.length = ds.reverse) (hby : ∀ y ∈ l, 0 ≤ y ∧ y ≤ 255) (h : Ses.RS W b g c l idx false 64) :
    Calls Tryd.prog 48 #[.pointer (some ⟨b, 0, none⟩), .agg #[.int .i64 5, .int .i64 8, .bool false, .bool true]] W fun e w' => ∃ A n cc, e = .returned (.agg #[.bool true, .slice A n cc, .slice none 0 0, .int .i64 N, .string ⟨#[]⟩]) ∧ Value.slice none 0 0 = .slice A n cc ∧ Ses.RS w' b g c l (idx + 1 + ds.length) false 64 ∧ W.grownBy w' (some b) := by
  refine got_five W b g c l idx (idx + 1 + ds.length) false 64 _ h (fun W1 h1 => long_ok W1 b g c l idx false 64 (ds.length : Int) ds.length h1 (by omega) hx (Ses.p127 ⟨ds.length, by omega⟩) (by omega)) (fun W1 h1 => getInt_of W1 b 8 N true false (fun w' => Ses.RS w' b g c l (idx + 1 + ds.length) false 64 ∧ W1.grownBy w' (some b)) ?_)
  by_cases h0 : ds.length = 0
  · have hds : ds = [] := List.eq_nil_of_length_eq_zero h0
    have hN0 : N = 0 := by rw [← d3, hds]; rfl
    have hr := getInt64_zero W1 b g c l idx false false 64 8 h1 (by rw [hx, h0]; rfl) (by omega)
    rw [hN0, h0]
    exact hr
  · have hr := getInt64_plus W1 b g c l idx ds.length false false 64 (ds.length : Int) 8 h1 (by omega) d1 hx (Ses.p128w ⟨ds.length, by omega⟩) rfl hlen hby
    rw [hd, Ses.beVal_rev ds d2, d3, show wrap64 N = N by unfold wrap64; omega] at hr
    exact hr
theorem got5_minus (N : Int) (ds : List Int) (d1 : ds.length ≤ 8) (d2 : ∀ d ∈ ds, 0 ≤ d ∧ d ≤ 255) (d3 : Ses.digs ds = N) (hN : 0 ≤ N ∧ N < 9223372036854775808) (W : World) (b g c : Nat) (l : List Int) (idx : Nat) (hx : l.getD idx 0 = 128 + (ds.length : Int)) (hlen : idx + 1 + ds.length ≤ l.length) (hd : (l.drop (idx + 1)).take ds.length = ds.reverse) (hby : ∀ y ∈ l, 0 ≤ y ∧ y ≤ 255) (h : Ses.RS W b g c l idx false 64) :
    Calls Tryd.prog 48 #[.pointer (some ⟨b, 0, none⟩), .agg #[.int .i64 5, .int .i64 8, .bool false, .bool true]] W fun e w' => ∃ A n cc, e = .returned (.agg #[.bool true, .slice A n cc, .slice none 0 0, .int .i64 (-N), .string ⟨#[]⟩]) ∧ Value.slice none 0 0 = .slice A n cc ∧ Ses.RS w' b g c l (idx + 1 + ds.length) false 64 ∧ W.grownBy w' (some b) := by
  refine got_five W b g c l idx (idx + 1 + ds.length) false 64 _ h (fun W1 h1 => long_ok W1 b g c l idx false 64 (128 + (ds.length : Int)) ds.length h1 (by omega) hx (Ses.m127 ⟨ds.length, by omega⟩) (by omega)) (fun W1 h1 => getInt_of W1 b 8 (-N) true false (fun w' => Ses.RS w' b g c l (idx + 1 + ds.length) false 64 ∧ W1.grownBy w' (some b)) ?_)
  by_cases h0 : ds.length = 0
  · have hds : ds = [] := List.eq_nil_of_length_eq_zero h0
    have hN0 : N = 0 := by rw [← d3, hds]; rfl
    have hr := getInt64_none W1 b g c l idx false false 64 8 h1 (by rw [hx, h0]; rfl) (by omega)
    rw [hN0, h0]
    exact hr
  · have hr := getInt64_minus W1 b g c l idx ds.length false false 64 (128 + (ds.length : Int)) 8 h1 (by omega) d1 hx (Ses.m128w ⟨ds.length, by omega⟩) (Ses.m127w ⟨ds.length, by omega⟩) hlen hby
    rw [hd, Ses.beVal_rev ds d2, d3, show wrap64 (-wrap64 N) = -N by unfold wrap64; omega] at hr
    exact hr
end Go.Proofs.YtdnahdddkagfhaaDoor.X
