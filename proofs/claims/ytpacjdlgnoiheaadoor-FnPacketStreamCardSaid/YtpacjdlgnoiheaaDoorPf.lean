/- impl.DataBytes. -/
import Derived.Test.YtpacjdlgnoiheaaDoorPb
import Derived.Test.YtpacjdlgnoiheaaDoorBuw
namespace Go.Proofs.YtpacjdlgnoiheaaDoor.X
open Go.RowKit Go.Proofs.YtpacjdlgnoiheaaDoorW.PrintWords Go.Proofs.YtpacjdlgnoiheaaDoorW.PrintMore
attribute [local go_sem] setCell_drewN alloc_drewN
set_option linter.unusedVariables false

def dataHead (long : Bool) (n : Int) : List Int := (if long then [n / 16777216, n / 65536 % 256, n / 256 % 256, n % 256] else [n % 65536 / 256, n % 65536 % 256, 0, 0]) ++ [6, 0, 0, 0, 0, 0]
theorem dataHead_length (long : Bool) (n : Int) : (dataHead long n).length = 10 := by cases long <;> rfl
theorem headZ_data (long : Bool) (n : Int) : ((headZ long n 6 0 (List.replicate 10 0)).set 8 0).set (8 + 1) 0 = dataHead long n := by cases long <;> rfl

theorem whole_row {w' : World} {B r cap : Nat} {cur : Array Value} {l : List Int} (hb : w'.heap[r]? = some (.cells cur 5 (0, 0))) (hs : cur.size = cap) (hm : cap ≤ maxLen) (hn : l.length ≤ cap) (ht : cur.toList.take l.length = nums .u8 l) (hB : B ≤ r) :
    Kd.R (Kd.int .u8) 5 w' B (fun _ => True) (.slice (some ⟨r, 0, none⟩) l.length cap) l :=
  Kd.R_of_own ⟨by rw [Nat.mul_one]; exact nums_length .u8 l, .inr ⟨r, cap, cur, rfl, hB, hb, hn, hm, by omega, by rw [Nat.mul_one]; exact ht⟩⟩ (fun _ _ => trivial)

theorem whole_row' {w' : World} {B r n cap : Nat} {cur : Array Value} {l : List Int} (hl : l.length = n) (hb : w'.heap[r]? = some (.cells cur 5 (0, 0))) (hs : cur.size = cap) (hm : cap ≤ maxLen) (hn : n ≤ cap) (ht : cur.toList.take n = nums .u8 l) (hB : B ≤ r) :
    Kd.R (Kd.int .u8) 5 w' B (fun _ => True) (.slice (some ⟨r, 0, none⟩) n cap) l := by subst hl; exact whole_row hb hs hm hn ht hB
def RetBuf (r : Nat) (A : Option Addr) (n c : Nat) (w : World) (e : Ending) (w' : World) : Prop := ∃ b, e = .returned (.pointer (some ⟨b, 0, none⟩)) ∧ w'.heap[b]? = some (.cells #[.slice A n c, .int .i64 0, .int .i8 0] 117 (0, 0)) ∧ w.heap.size ≤ b ∧ Below w.heap.size w w'
set_option maxHeartbeats 400000 in
theorem newBuffer (A : Option Addr) (n c : Nat) (w : World) : Calls Tryd.prog 52 #[.slice A n c] w (RetBuf 0 A n c w) := by
  go_enter Tryd.func52, Tryd.ntmps52
  go_wp2
  go_ret
  exact ⟨_, rfl, xb_new _ _, Nat.le_refl _, (Below.refl _ _).alloc (Nat.le_refl _) _⟩

set_option maxRecDepth 100000 in
set_option maxHeartbeats 2000000 in
theorem dataPacketBytes (g x : Nat) (len ver : Int) (cpl : Bool) (A : Option Addr) (c : Nat) (p : List Int) (w : World)
    (c0 : w.cell? ⟨g, 0, none⟩ = some (.int .u16 10)) (c1 : w.cell? ⟨g, 1, none⟩ = some (.int .u32 len)) (c2 : w.cell? ⟨g, 2, none⟩ = some (.int .u8 6)) (c3 : w.cell? ⟨g, 3, none⟩ = some (.int .u8 0)) (c4 : w.cell? ⟨g, 4, none⟩ = some (.pointer (some ⟨x, 0, none⟩)))
    (c5 : w.cell? ⟨g, 5, none⟩ = some (.int .u16 0)) (c6 : w.cell? ⟨g, 6, none⟩ = some (.slice A p.length c))
    (x9 : w.cell? ⟨x, 9, none⟩ = some (.bool cpl)) (x2 : w.cell? ⟨x, 2, none⟩ = some (.int .u16 ver)) (hl0 : 0 ≤ len) (hl1 : len ≤ 4294967295) (hC : Kd.C (Kd.int .u8) w A p.length p) (hp : p.length ≤ 70368744177664) :
    Calls Tryd.prog 41 #[.pointer (some ⟨g, 0, none⟩)] w (RetRow (dataHead (longOf cpl ver) len ++ p) w) := by
  have hg := World.block_lt_of_cell? w _ c0
  simp only at hg
  have HC := Lib.hid hC
  have PB : Hid (Calls Tryd.prog 50 #[.pointer (some ⟨g, 0, none⟩)] w (RetWhole 10 (headZ (longOf cpl ver) len 6 0 (List.replicate 10 0)) w)) := Lib.hid (packetBytes g x 10 len 6 0 ver cpl w (by omega) (by omega) c0 c1 c2 c3 c4 x9 x2 hl0 hl1)
  have CS : Hid (∀ W, Below w.heap.size w W → W.cell? ⟨g, 5, none⟩ = some (.int .u16 0) ∧ W.cell? ⟨g, 6, none⟩ = some (.slice A p.length c)) := Lib.hid fun W hW => ⟨bl_cell hW c5, bl_cell hW c6⟩
  have hd := headZ_data (longOf cpl ver) len
  have hdl := dataHead_length (longOf cpl ver) len
  generalize dataHead (longOf cpl ver) len = dh at *
  generalize headZ (longOf cpl ver) len 6 0 (List.replicate 10 0) = hz at *
  have HD := Lib.hid hd
  have HDL := Lib.hid hdl
  clear c0 c1 c2 c3 c4 c5 c6 x9 x2 hC hd hdl
  go_enter Tryd.func41, Tryd.ntmps41
  go_wp2_with fail
  refine PB.out.mono ?_
  rintro e w1 ⟨r, cap, cur, rfl, hb, hs, hm, hn, ht, hr, hB⟩
  obtain ⟨a5, a6⟩ := CS.out w1 hB
  have hm' := hm
  unfold maxLen at hm'
  have hPut : Hid (Calls Tryd.prog 51 #[.agg #[], .slice (some ⟨r, 8, none⟩) (10 - 8) (cap - 8), .int .u16 0] w1.drew (RetPut r 5 ((cur.setIfInBounds 8 (.int .u8 (0 / 256))).setIfInBounds (8 + 1) (.int .u8 (0 % 256))) w1.drew)) := Lib.hid (put16 r 8 (10 - 8) (cap - 8) 0 5 cur w1.drew hb (by omega) (by omega) (by omega) (by omega))
  have hc8 : ¬ cap = 8 := by omega
  have hc8' : 8 ≤ cap := by omega
  have HB := Lib.hid hB
  have HT := Lib.hid ht
  have HS := Lib.hid hs
  clear hb hB ht hs PB
  go_wp2_with fail
  go_region_held3 (fun w' => w'.cell? ⟨g, 5, none⟩ = some (.int .u16 0)) (first | exact a5 | exact q5) (first | (go_at_call 51; refine hPut.out.mono ?_; rintro e w3 ⟨rfl, hb3, hg3⟩; have hB3 := grown_below (bl_trans HB.out (bl_drewN w1 1)) hg3 (by exact HB.out.size) hr; obtain ⟨q5, q6⟩ := CS.out w3 hB3; have HB3 := Aside0.mk hB3; have Hb3 := Aside0.mk hb3; clear hB3 hb3 hg3))
  have ht3 : ((cur.setIfInBounds 8 (.int .u8 (0 / 256))).setIfInBounds (8 + 1) (.int .u8 (0 % 256))).toList.take 10 = nums .u8 dh := by
    rw [← HD.out]
    exact take_set _ _ _ _ _ (take_set _ _ _ _ _ HT.out)
  have hs3 : ((cur.setIfInBounds 8 (.int .u8 (0 / 256))).setIfInBounds (8 + 1) (.int .u8 (0 % 256))).size = cap := by simp only [Array.size_setIfInBounds]; exact HS.out
  have HT3 := Lib.hid ht3
  have HS3 := Lib.hid hs3
  have HR3 := Lib.hid Hb3.out
  have hB3 := HB3.out
  clear ht3 hs3 Hb3 hPut
  generalize (cur.setIfInBounds 8 (.int .u8 (0 / 256))).setIfInBounds (8 + 1) (.int .u8 (0 % 256)) = cur3 at *
  have HB3' := Lib.hid hB3
  clear hB3 HB3 HB HT HS a5 a6
  go_wp2_with fail
  refine (newBuffer _ _ _ _).mono ?_
  rintro e w4 ⟨b, rfl, hb4, hbs, hB4⟩
  have hBw4 := bl_trans HB3'.out hB4
  obtain ⟨k5, k6⟩ := CS.out w4 hBw4
  have hr4 := blk_bl HR3.out hB4 (xb_lt HR3.out)
  have hrb : ¬ r = b := by have := xb_lt HR3.out; omega
  have hbw : w.heap.size ≤ b := by have := HB3'.out.size; omega
  have hlim : 10 + p.length ≤ 140737488355328 := by omega
  by_cases hp0 : 0 < p.length
  · have hW : Hid (Calls Tryd.prog 53 #[.pointer (some ⟨b, 0, none⟩), .slice A p.length c] w4 (RetWrite b 0 r 117 #[.slice (some ⟨r, 0, none⟩) 10 cap, .int .i64 0, .int .i8 0] 10 p.length (nums .u8 (dh ++ p)) w4)) :=
      Lib.hid (bufWriteRow b 0 r 10 cap 117 _ cur3 0 A c p w4 hb4 rfl rfl rfl hr4 hrb HS3.out hn hm dh HT3.out (Kd.C_below HC.out hBw4) (by
        obtain ⟨g', o', rfl, hg', _⟩ := C_base HC.out hp0
        intro a ha
        injection ha with ha
        subst ha
        simp only
        omega) hlim)
    have HB4 := Lib.hid hBw4
    have hp1 : (0 : Int) < (p.length : Int) := by omega
    clear hb4 hr4 hB4 hBw4 HC HR3 HT3 HS3 q5 q6
    go_wp2_with fail
    refine hW.out.mono ?_
    rintro e w5 ⟨g', cap', cur', rfl, hb5, hg5, hs5, hm5, hl5, ht5, hor, hk⟩
    have hm5' := hm5
    unfold maxLen at hm5'
    have e0 : w5.cell? ⟨b, 0, none⟩ = some (.slice (some ⟨g', 0, none⟩) (10 + p.length) cap') := xb_cell hb5 0
    have e1 : w5.cell? ⟨b, 0 + 1, none⟩ = some (.int .i64 0) := xb_cell hb5 1
    have hBy : Hid (Calls Tryd.prog 54 #[.pointer (some ⟨b, 0, none⟩)] w5 (RetBytes (.slice (some ⟨g', 0, none⟩) (10 + p.length) cap') w5)) := Lib.hid (bufBytes b 0 g' (10 + p.length) cap' w5 e0 e1 hl5 (by omega))
    have hfin : Kd.R (Kd.int .u8) 5 w5 w.heap.size (fun _ => True) (.slice (some ⟨g', 0, none⟩) (10 + p.length) cap') (dh ++ p) := whole_row' (by rw [List.length_append, HDL.out]) hg5 hs5 hm5 hl5 ht5 (by have := HB4.out.size; rcases hor with rfl | h <;> omega)
    have hBf : Below w.heap.size w w5 := hk.below HB4.out HB4.out.size hbw hr
    have HF := Lib.hid hfin
    have HBf := Lib.hid hBf
    clear hb5 hg5 hs5 ht5 hk e0 e1 hfin hBf hW
    go_wp2_with fail
    refine hBy.out.mono ?_
    rintro e w6 ⟨rfl, hd⟩
    obtain ⟨d, rfl⟩ := hd.out
    go_wp2
    go_ret
    exact ⟨_, rfl, HF.out, bl_trans HBf.out (bl_drewN _ _)⟩
  · have hz : p = [] := List.eq_nil_of_length_eq_zero (by omega)
    subst hz
    have e0 : w4.cell? ⟨b, 0, none⟩ = some (.slice (some ⟨r, 0, none⟩) 10 cap) := xb_cell hb4 0
    have e1 : w4.cell? ⟨b, 0 + 1, none⟩ = some (.int .i64 0) := xb_cell hb4 1
    have hBy : Hid (Calls Tryd.prog 54 #[.pointer (some ⟨b, 0, none⟩)] w4 (RetBytes (.slice (some ⟨r, 0, none⟩) 10 cap) w4)) := Lib.hid (bufBytes b 0 r 10 cap w4 e0 e1 hn (by omega))
    have hfin : Kd.R (Kd.int .u8) 5 w4 w.heap.size (fun _ => True) (.slice (some ⟨r, 0, none⟩) 10 cap) (dh ++ []) := whole_row' (by rw [List.append_nil, HDL.out]) hr4 HS3.out hm hn (by rw [List.append_nil]; exact HT3.out) hr
    have HF := Lib.hid hfin
    have HB4 := Lib.hid hBw4
    clear hb4 hr4 hB4 hBw4 HC HR3 HT3 HS3 q5 q6 e0 e1 hfin
    simp only [List.length_nil] at k6
    go_wp2_with fail
    refine hBy.out.mono ?_
    rintro e w6 ⟨rfl, hd⟩
    obtain ⟨d, rfl⟩ := hd.out
    go_wp2
    go_ret
    exact ⟨_, rfl, HF.out, bl_trans HB4.out (bl_drewN _ _)⟩
end Go.Proofs.YtpacjdlgnoiheaaDoor.X
