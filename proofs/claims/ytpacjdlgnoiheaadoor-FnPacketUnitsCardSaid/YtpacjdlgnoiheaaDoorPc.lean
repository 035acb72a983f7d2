/- (*ConnectPacket).bytes. -/
import Derived.Test.YtpacjdlgnoiheaaDoorPb
import Derived.Test.YtpacjdlgnoiheaaDoorPf
import Derived.Deep.RegionHeld3
namespace Go.Proofs.YtpacjdlgnoiheaaDoor.X
open Go Go.RowKit Go.Proofs.YtpacjdlgnoiheaaDoorW.PrintWords Go.Proofs.YtpacjdlgnoiheaaDoorW.PrintMore
attribute [local go_sem] setCell_drewN alloc_drewN
set_option linter.unusedVariables false
def p16 (l : List Int) (o : Nat) (v : Int) : List Int := (l.set o (v / 256)).set (o + 1) (v % 256)
def p32 (l : List Int) (o : Nat) (v : Int) : List Int := (((l.set o (v / 16777216)).set (o + 1) (v / 65536 % 256)).set (o + 2) (v / 256 % 256)).set (o + 3) (v % 256)
def low16 (v : Int) : Int := if v > 65535 then 65535 else v
/-- The seventy bytes of a packet CONNECT. -/
def connHead (long : Bool) (len ver lo opt our hist su tu : Int) (n : Nat) : List Int :=
  ((p16 (p16 (p16 (((p32 (p32 (p16 (p32 (p16 (p16 (p16 (p16 (headZ long len 1 0 (List.replicate 70 0)) 8 ver) 10 lo) 12 opt) 14 (low16 su)) 58 su) 16 (low16 tu)) 62 tu) 66 0).set 18 79).set 19 152) 22 our) 24 (n : Int)) 26 70).set 32 1).set 33 1
theorem p16_length (l : List Int) (o : Nat) (v : Int) : (p16 l o v).length = l.length := by simp [p16]
theorem p32_length (l : List Int) (o : Nat) (v : Int) : (p32 l o v).length = l.length := by simp [p32]
theorem headZ_length (long : Bool) (len ty fl : Int) (zs : List Int) : (headZ long len ty fl zs).length = zs.length := by cases long <;> simp [headZ]
/-- A row of the call's own, in a block that is known. -/
structure Row70 (W : World) (r cap : Nat) (l : List Int) (cur : Array Value) : Prop where
  blk : W.heap[r]? = some (.cells cur 5 (0, 0))
  size : cur.size = cap
  take : cur.toList.take 70 = nums .u8 l
theorem Row70.of16 {W W' : World} {r cap o : Nat} {l : List Int} {cur : Array Value} {v : Int} (h : Row70 W r cap l cur) (hb : W'.heap[r]? = some (.cells ((cur.setIfInBounds o (.int .u8 (v / 256))).setIfInBounds (o + 1) (.int .u8 (v % 256))) 5 (0, 0))) : ∃ cur', Row70 W' r cap (p16 l o v) cur' :=
  ⟨_, hb, by simp only [Array.size_setIfInBounds]; exact h.size, take_set _ _ _ _ _ (take_set _ _ _ _ _ h.take)⟩
theorem Row70.of32 {W W' : World} {r cap o : Nat} {l : List Int} {cur : Array Value} {v : Int} (h : Row70 W r cap l cur) (hb : W'.heap[r]? = some (.cells ((((cur.setIfInBounds o (.int .u8 (v / 16777216))).setIfInBounds (o + 1) (.int .u8 (v / 65536 % 256))).setIfInBounds (o + 2) (.int .u8 (v / 256 % 256))).setIfInBounds (o + 3) (.int .u8 (v % 256))) 5 (0, 0))) : ∃ cur', Row70 W' r cap (p32 l o v) cur' :=
  ⟨_, hb, by simp only [Array.size_setIfInBounds]; exact h.size, take_set _ _ _ _ _ (take_set _ _ _ _ _ (take_set _ _ _ _ _ (take_set _ _ _ _ _ h.take)))⟩
theorem Row70.ofSet {W : World} {r cap o : Nat} {l : List Int} {cur : Array Value} {v : Int} (h : Row70 W r cap l cur) : Row70 (W.setCell ⟨r, o, none⟩ (.int .u8 v)) r cap (l.set o v) (cur.setIfInBounds o (.int .u8 v)) :=
  ⟨xb_set h.blk o _, by simp only [Array.size_setIfInBounds]; exact h.size, take_set _ _ _ _ _ h.take⟩
theorem Row70.ofSet2 {W : World} {r cap o o2 : Nat} {l : List Int} {cur : Array Value} {v v2 : Int} (h : Row70 W r cap l cur) : ∃ cur', Row70 ((W.setCell ⟨r, o, none⟩ (.int .u8 v)).setCell ⟨r, o2, none⟩ (.int .u8 v2)) r cap ((l.set o v).set o2 v2) cur' := ⟨_, Row70.ofSet (Row70.ofSet h)⟩
theorem Row70.drew {W : World} {r cap : Nat} {l : List Int} {cur : Array Value} (h : Row70 W r cap l cur) : Row70 W.drew r cap l cur := ⟨h.blk, h.size, h.take⟩
theorem Row70.cell {W : World} {r cap : Nat} {l : List Int} {cur : Array Value} (h : Row70 W r cap l cur) (hc : 70 ≤ cap) (i : Nat) (hi : i < 70) : ∃ x, W.cell? ⟨r, i, none⟩ = some x := ⟨_, (xb_cell h.blk i).trans (Array.getElem?_eq_getElem (by have := h.size; omega))⟩
set_option maxRecDepth 100000 in
set_option maxHeartbeats 60000000 in
theorem connectBytes (g x : Nat) (len ver lo opt our hist su tu : Int) (cpl : Bool) (A : Option Addr) (c : Nat) (p : List Int) (w : World)
    (c1 : w.cell? ⟨g, 1, none⟩ = some (.int .u32 len)) (c2 : w.cell? ⟨g, 2, none⟩ = some (.int .u8 1)) (c3 : w.cell? ⟨g, 3, none⟩ = some (.int .u8 0)) (x9 : w.cell? ⟨x, 9, none⟩ = some (.bool cpl))
    (q0 : w.cell? ⟨g, 0, none⟩ = some (.int .u16 70)) (q4 : w.cell? ⟨g, 4, none⟩ = some (.pointer (some ⟨x, 0, none⟩))) (q5 : w.cell? ⟨g, 5, none⟩ = some (.slice A p.length c)) (x2 : w.cell? ⟨x, 2, none⟩ = some (.int .u16 ver)) (x3 : w.cell? ⟨x, 3, none⟩ = some (.int .u16 lo)) (x4 : w.cell? ⟨x, 4, none⟩ = some (.int .u16 opt)) (x6 : w.cell? ⟨x, 6, none⟩ = some (.int .u16 our)) (x10 : w.cell? ⟨x, 10, none⟩ = some (.int .u8 1)) (x11 : w.cell? ⟨x, 11, none⟩ = some (.int .u8 1)) (x12 : w.cell? ⟨x, 12, none⟩ = some (.int .u32 su)) (x13 : w.cell? ⟨x, 13, none⟩ = some (.int .u32 tu))
    (hl0 : 0 ≤ len) (hl1 : len ≤ 4294967295) (hver : 0 ≤ ver ∧ ver ≤ 65535) (hlo : 0 ≤ lo ∧ lo ≤ 65535) (hopt : 0 ≤ opt ∧ opt ≤ 65535) (hour : 0 ≤ our ∧ our ≤ 65535) (hsu : 0 ≤ su ∧ su ≤ 4294967295) (htu : 0 ≤ tu ∧ tu ≤ 4294967295) (hn : p.length ≤ 2000) (hC : Kd.C (Kd.int .u8) w A p.length p) :
    Calls Tryd.prog 43 #[.pointer (some ⟨g, 0, none⟩)] w (RetRow (connHead (longOf cpl ver) len ver lo opt our hist su tu p.length ++ (if p.length ≤ 230 then p else [])) w) := by
  have HC := Lib.hid hC
  have PB : Hid (Calls Tryd.prog 50 #[.pointer (some ⟨g, 0, none⟩)] w (RetWhole 70 (headZ (longOf cpl ver) len 1 0 (List.replicate 70 0)) w)) := Lib.hid (packetBytes g x 70 len 1 0 ver cpl w (by omega) (by omega) q0 c1 c2 c3 q4 x9 x2 hl0 hl1)
  have CS : Hid (∀ W, Below w.heap.size w W → W.cell? ⟨g, 0, none⟩ = some (.int .u16 70) ∧ W.cell? ⟨g, 4, none⟩ = some (.pointer (some ⟨x, 0, none⟩)) ∧ W.cell? ⟨g, 5, none⟩ = some (.slice A p.length c) ∧ W.cell? ⟨x, 2, none⟩ = some (.int .u16 ver) ∧ W.cell? ⟨x, 3, none⟩ = some (.int .u16 lo) ∧ W.cell? ⟨x, 4, none⟩ = some (.int .u16 opt) ∧ W.cell? ⟨x, 6, none⟩ = some (.int .u16 our) ∧ W.cell? ⟨x, 10, none⟩ = some (.int .u8 1) ∧ W.cell? ⟨x, 11, none⟩ = some (.int .u8 1) ∧ W.cell? ⟨x, 12, none⟩ = some (.int .u32 su) ∧ W.cell? ⟨x, 13, none⟩ = some (.int .u32 tu)) := Lib.hid fun W hW => ⟨bl_cell hW q0, bl_cell hW q4, bl_cell hW q5, bl_cell hW x2, bl_cell hW x3, bl_cell hW x4, bl_cell hW x6, bl_cell hW x10, bl_cell hW x11, bl_cell hW x12, bl_cell hW x13⟩
  have hE : Hid (connHead (longOf cpl ver) len ver lo opt our hist su tu p.length = ((p16 (p16 (p16 (((p32 (p32 (p16 (p32 (p16 (p16 (p16 (p16 (headZ (longOf cpl ver) len 1 0 (List.replicate 70 0)) 8 ver) 10 lo) 12 opt) 14 (low16 su)) 58 su) 16 (low16 tu)) 62 tu) 66 0).set 18 79).set 19 152) 22 our) 24 (p.length : Int)) 26 70).set 32 1).set 33 1) := Lib.hid rfl
  have hl70 : Hid ((headZ (longOf cpl ver) len 1 0 (List.replicate 70 0)).length = 70) := Lib.hid (by rw [headZ_length]; rfl)
  have hgx := World.block_lt_of_cell? w _ q0
  have hxx := World.block_lt_of_cell? w _ x2
  simp only at hgx hxx
  generalize connHead (longOf cpl ver) len ver lo opt our hist su tu p.length = LL at *
  have hT : Hid (LL ++ (if p.length ≤ 230 then p else []) = LL ++ (if p.length ≤ 230 then p else [])) := Lib.hid rfl
  generalize hLT : LL ++ (if p.length ≤ 230 then p else []) = LT at *
  have HLT := Lib.hid hLT
  clear hLT hT
  generalize headZ (longOf cpl ver) len 1 0 (List.replicate 70 0) = l0 at *
  clear c1 c2 c3 x9 hC q0 q4 q5 x2 x3 x4 x6 x10 x11 x12 x13
  have hs12 : (su > 65535 ∧ (65535 : Int) = low16 su) ∨ (su ≤ 65535 ∧ su = low16 su) := by by_cases h : su > 65535 <;> simp [low16, h] <;> omega
  have hs13 : (tu > 65535 ∧ (65535 : Int) = low16 tu) ∨ (tu ≤ 65535 ∧ tu = low16 tu) := by by_cases h : tu > 65535 <;> simp [low16, h] <;> omega
  generalize low16 su = m12 at *
  generalize low16 tu = m13 at *
  have hwn : IntKind.u16.wrap (p.length : Int) = (p.length : Int) := u16_wrap_id _ (by omega) (by omega)
  rcases hs12 with ⟨h12, rfl⟩ | ⟨h12, rfl⟩ <;> rcases hs13 with ⟨h13, rfl⟩ | ⟨h13, rfl⟩
  all_goals
    (first | have t12 : decide (su > 65535) = true := by simpa using h12 | have t12 : decide (su > 65535) = false := by simp; omega)
    (first | have t13 : decide (tu > 65535) = true := by simpa using h13 | have t13 : decide (tu > 65535) = false := by simp; omega)
    (first | have hw12 : IntKind.u16.wrap su = su := u16_wrap_id _ (by omega) (by omega) | have hw12 : IntKind.u16.wrap su = su % 65536 := IntKind.wrap_u16 su)
    (first | have hw13 : IntKind.u16.wrap tu = tu := u16_wrap_id _ (by omega) (by omega) | have hw13 : IntKind.u16.wrap tu = tu % 65536 := IntKind.wrap_u16 tu)
    go_enter Tryd.func43, Tryd.ntmps43
    go_wp2_with fail
    refine PB.out.mono ?_
    rintro e w1 ⟨r, cap, cur0, rfl, hb, hs, hm, hcap, ht, hr, hB⟩
    have H0 : Hid (Row70 w1 r cap l0 cur0) := Lib.hid ⟨hb, hs, ht⟩
    obtain ⟨q0, q4, q5, x2, x3, x4, x6, x10, x11, x12, x13⟩ := CS.out w1 hB
    have HB := Lib.hid hB
    clear hb hs ht hB PB
    have hp : Hid (Calls Tryd.prog 51 #[.agg #[], .slice (some ⟨r, 8, none⟩) (70 - 8) (cap - 8), .int .u16 ver] w1.drew (RetPut r 5 ((cur0.setIfInBounds 8 (.int .u8 (ver / 256))).setIfInBounds (8 + 1) (.int .u8 (ver % 256))) w1.drew)) := Lib.hid (put16 r 8 (70 - 8) (cap - 8) ver 5 cur0 w1.drew H0.out.blk (by omega) (by have := H0.out.size; omega) hver.1 hver.2)
    have hc8 : ¬ cap = 8 := by omega
    have hd8 : 8 ≤ cap := by omega
    (try go_wp2_with fail)
    go_region_held3 (fun w' => w'.cell? ⟨g, 4, none⟩ = some (.pointer (some ⟨x, 0, none⟩)) ∧ w'.cell? ⟨x, 2, none⟩ = some (.int .u16 ver)) (first | exact ⟨q4, x2⟩) (first | (go_at_call 51; refine hp.out.mono ?_; rintro e w2 ⟨rfl, hb3, hg3⟩; have hB3 := grown_below (bl_trans HB.out (bl_drewN w1 1)) hg3 (by exact HB.out.size) hr; clear q0 q4 q5 x2 x3 x4 x6 x10 x11 x12 x13; obtain ⟨q0, q4, q5, x2, x3, x4, x6, x10, x11, x12, x13⟩ := CS.out w2 hB3; have HB3 := Aside0.mk hB3; have Hb3 := Aside0.mk hb3; clear hB3 hb3 hg3))
    obtain ⟨cur1, hrow⟩ := H0.out.of16 Hb3.out
    have H1 := Lib.hid hrow
    clear hp hrow Hb3 H0 HB
    have HB := Lib.hid HB3.out
    clear HB3
    have hp : Hid (Calls Tryd.prog 51 #[.agg #[], .slice (some ⟨r, 10, none⟩) (70 - 10) (cap - 10), .int .u16 lo] w2.drew (RetPut r 5 ((cur1.setIfInBounds 10 (.int .u8 (lo / 256))).setIfInBounds (10 + 1) (.int .u8 (lo % 256))) w2.drew)) := Lib.hid (put16 r 10 (70 - 10) (cap - 10) lo 5 cur1 w2.drew H1.out.blk (by omega) (by have := H1.out.size; omega) hlo.1 hlo.2)
    have hc10 : ¬ cap = 10 := by omega
    have hd10 : 10 ≤ cap := by omega
    (try go_wp2_with fail)
    go_region_held3 (fun w' => w'.cell? ⟨g, 4, none⟩ = some (.pointer (some ⟨x, 0, none⟩)) ∧ w'.cell? ⟨x, 3, none⟩ = some (.int .u16 lo)) (first | exact ⟨q4, x3⟩) (first | (go_at_call 51; refine hp.out.mono ?_; rintro e w3 ⟨rfl, hb3, hg3⟩; have hB3 := grown_below (bl_trans HB.out (bl_drewN w2 1)) hg3 (by exact HB.out.size) hr; clear q0 q4 q5 x2 x3 x4 x6 x10 x11 x12 x13; obtain ⟨q0, q4, q5, x2, x3, x4, x6, x10, x11, x12, x13⟩ := CS.out w3 hB3; have HB3 := Aside0.mk hB3; have Hb3 := Aside0.mk hb3; clear hB3 hb3 hg3))
    obtain ⟨cur2, hrow⟩ := H1.out.of16 Hb3.out
    have H2 := Lib.hid hrow
    clear hp hrow Hb3 H1 HB
    have HB := Lib.hid HB3.out
    clear HB3
    have hp : Hid (Calls Tryd.prog 51 #[.agg #[], .slice (some ⟨r, 12, none⟩) (70 - 12) (cap - 12), .int .u16 opt] w3.drew (RetPut r 5 ((cur2.setIfInBounds 12 (.int .u8 (opt / 256))).setIfInBounds (12 + 1) (.int .u8 (opt % 256))) w3.drew)) := Lib.hid (put16 r 12 (70 - 12) (cap - 12) opt 5 cur2 w3.drew H2.out.blk (by omega) (by have := H2.out.size; omega) hopt.1 hopt.2)
    have hc12 : ¬ cap = 12 := by omega
    have hd12 : 12 ≤ cap := by omega
    (try go_wp2_with fail)
    go_region_held3 (fun w' => w'.cell? ⟨g, 4, none⟩ = some (.pointer (some ⟨x, 0, none⟩)) ∧ w'.cell? ⟨x, 4, none⟩ = some (.int .u16 opt)) (first | exact ⟨q4, x4⟩) (first | (go_at_call 51; refine hp.out.mono ?_; rintro e w4 ⟨rfl, hb3, hg3⟩; have hB3 := grown_below (bl_trans HB.out (bl_drewN w3 1)) hg3 (by exact HB.out.size) hr; clear q0 q4 q5 x2 x3 x4 x6 x10 x11 x12 x13; obtain ⟨q0, q4, q5, x2, x3, x4, x6, x10, x11, x12, x13⟩ := CS.out w4 hB3; have HB3 := Aside0.mk hB3; have Hb3 := Aside0.mk hb3; clear hB3 hb3 hg3))
    obtain ⟨cur3, hrow⟩ := H2.out.of16 Hb3.out
    have H3 := Lib.hid hrow
    clear hp hrow Hb3 H2 HB
    have HB := Lib.hid HB3.out
    clear HB3
    have hp : Hid (∀ v : Int, 0 ≤ v → v ≤ 65535 → Calls Tryd.prog 51 #[.agg #[], .slice (some ⟨r, 14, none⟩) (70 - 14) (cap - 14), .int .u16 v] w4.drew (RetPut r 5 ((cur3.setIfInBounds 14 (.int .u8 (v / 256))).setIfInBounds (14 + 1) (.int .u8 (v % 256))) w4.drew)) := Lib.hid fun v h0 h1 => put16 r 14 (70 - 14) (cap - 14) v 5 cur3 w4.drew H3.out.blk (by omega) (by have := H3.out.size; omega) h0 h1
    have hc14 : ¬ cap = 14 := by omega
    have hd14 : 14 ≤ cap := by omega
    (try go_wp2_with fail)
    go_region_held3 (fun w' => True) (first | exact trivial) (first | (go_at_call 51; refine (hp.out _ (by omega) (by omega)).mono ?_; rintro e w5 ⟨rfl, hb3, hg3⟩; have hB3 := grown_below (bl_trans HB.out (bl_drewN w4 1)) hg3 (by exact HB.out.size) hr; clear q0 q4 q5 x2 x3 x4 x6 x10 x11 x12 x13; obtain ⟨q0, q4, q5, x2, x3, x4, x6, x10, x11, x12, x13⟩ := CS.out w5 hB3; have HB3 := Aside0.mk hB3; have Hb3 := Aside0.mk hb3; clear hB3 hb3 hg3))
    obtain ⟨cur4, hrow⟩ := H3.out.of16 Hb3.out
    have H4 := Lib.hid hrow
    clear hp hrow Hb3 H3 HB
    have HB := Lib.hid HB3.out
    clear HB3
    have hp : Hid (Calls Tryd.prog 55 #[.agg #[], .slice (some ⟨r, 58, none⟩) (70 - 58) (cap - 58), .int .u32 su] w5.drew (RetPut r 5 ((((cur4.setIfInBounds 58 (.int .u8 (su / 16777216))).setIfInBounds (58 + 1) (.int .u8 (su / 65536 % 256))).setIfInBounds (58 + 2) (.int .u8 (su / 256 % 256))).setIfInBounds (58 + 3) (.int .u8 (su % 256))) w5.drew)) := Lib.hid (put32 r 58 (70 - 58) (cap - 58) su 5 cur4 w5.drew H4.out.blk (by omega) (by have := H4.out.size; omega) hsu.1 hsu.2)
    have hc58 : ¬ cap = 58 := by omega
    have hd58 : 58 ≤ cap := by omega
    (try go_wp2_with fail)
    go_region_held3 (fun w' => w'.cell? ⟨g, 4, none⟩ = some (.pointer (some ⟨x, 0, none⟩)) ∧ w'.cell? ⟨x, 12, none⟩ = some (.int .u32 su)) (first | exact ⟨q4, x12⟩) (first | (go_at_call 55; refine hp.out.mono ?_; rintro e w6 ⟨rfl, hb3, hg3⟩; have hB3 := grown_below (bl_trans HB.out (bl_drewN w5 1)) hg3 (by exact HB.out.size) hr; clear q0 q4 q5 x2 x3 x4 x6 x10 x11 x12 x13; obtain ⟨q0, q4, q5, x2, x3, x4, x6, x10, x11, x12, x13⟩ := CS.out w6 hB3; have HB3 := Aside0.mk hB3; have Hb3 := Aside0.mk hb3; clear hB3 hb3 hg3))
    obtain ⟨cur5, hrow⟩ := H4.out.of32 Hb3.out
    have H5 := Lib.hid hrow
    clear hp hrow Hb3 H4 HB
    have HB := Lib.hid HB3.out
    clear HB3
    have hp : Hid (∀ v : Int, 0 ≤ v → v ≤ 65535 → Calls Tryd.prog 51 #[.agg #[], .slice (some ⟨r, 16, none⟩) (70 - 16) (cap - 16), .int .u16 v] w6.drew (RetPut r 5 ((cur5.setIfInBounds 16 (.int .u8 (v / 256))).setIfInBounds (16 + 1) (.int .u8 (v % 256))) w6.drew)) := Lib.hid fun v h0 h1 => put16 r 16 (70 - 16) (cap - 16) v 5 cur5 w6.drew H5.out.blk (by omega) (by have := H5.out.size; omega) h0 h1
    have hc16 : ¬ cap = 16 := by omega
    have hd16 : 16 ≤ cap := by omega
    (try go_wp2_with fail)
    go_region_held3 (fun w' => True) (first | exact trivial) (first | (go_at_call 51; refine (hp.out _ (by omega) (by omega)).mono ?_; rintro e w7 ⟨rfl, hb3, hg3⟩; have hB3 := grown_below (bl_trans HB.out (bl_drewN w6 1)) hg3 (by exact HB.out.size) hr; clear q0 q4 q5 x2 x3 x4 x6 x10 x11 x12 x13; obtain ⟨q0, q4, q5, x2, x3, x4, x6, x10, x11, x12, x13⟩ := CS.out w7 hB3; have HB3 := Aside0.mk hB3; have Hb3 := Aside0.mk hb3; clear hB3 hb3 hg3))
    obtain ⟨cur6, hrow⟩ := H5.out.of16 Hb3.out
    have H6 := Lib.hid hrow
    clear hp hrow Hb3 H5 HB
    have HB := Lib.hid HB3.out
    clear HB3
    have hp : Hid (Calls Tryd.prog 55 #[.agg #[], .slice (some ⟨r, 62, none⟩) (70 - 62) (cap - 62), .int .u32 tu] w7.drew (RetPut r 5 ((((cur6.setIfInBounds 62 (.int .u8 (tu / 16777216))).setIfInBounds (62 + 1) (.int .u8 (tu / 65536 % 256))).setIfInBounds (62 + 2) (.int .u8 (tu / 256 % 256))).setIfInBounds (62 + 3) (.int .u8 (tu % 256))) w7.drew)) := Lib.hid (put32 r 62 (70 - 62) (cap - 62) tu 5 cur6 w7.drew H6.out.blk (by omega) (by have := H6.out.size; omega) htu.1 htu.2)
    have hc62 : ¬ cap = 62 := by omega
    have hd62 : 62 ≤ cap := by omega
    (try go_wp2_with fail)
    go_region_held3 (fun w' => w'.cell? ⟨g, 4, none⟩ = some (.pointer (some ⟨x, 0, none⟩)) ∧ w'.cell? ⟨x, 13, none⟩ = some (.int .u32 tu)) (first | exact ⟨q4, x13⟩) (first | (go_at_call 55; refine hp.out.mono ?_; rintro e w8 ⟨rfl, hb3, hg3⟩; have hB3 := grown_below (bl_trans HB.out (bl_drewN w7 1)) hg3 (by exact HB.out.size) hr; clear q0 q4 q5 x2 x3 x4 x6 x10 x11 x12 x13; obtain ⟨q0, q4, q5, x2, x3, x4, x6, x10, x11, x12, x13⟩ := CS.out w8 hB3; have HB3 := Aside0.mk hB3; have Hb3 := Aside0.mk hb3; clear hB3 hb3 hg3))
    obtain ⟨cur7, hrow⟩ := H6.out.of32 Hb3.out
    have H7 := Lib.hid hrow
    clear hp hrow Hb3 H6 HB
    have HB := Lib.hid HB3.out
    clear HB3
    have hp : Hid (Calls Tryd.prog 55 #[.agg #[], .slice (some ⟨r, 66, none⟩) (70 - 66) (cap - 66), .int .u32 0] w8.drew (RetPut r 5 ((((cur7.setIfInBounds 66 (.int .u8 (0 / 16777216))).setIfInBounds (66 + 1) (.int .u8 (0 / 65536 % 256))).setIfInBounds (66 + 2) (.int .u8 (0 / 256 % 256))).setIfInBounds (66 + 3) (.int .u8 (0 % 256))) w8.drew)) := Lib.hid (put32 r 66 (70 - 66) (cap - 66) 0 5 cur7 w8.drew H7.out.blk (by omega) (by have := H7.out.size; omega) (by omega) (by omega))
    have hc66 : ¬ cap = 66 := by omega
    have hd66 : 66 ≤ cap := by omega
    (try go_wp2_with fail)
    go_region_held3 (fun w' => True) (first | exact trivial) (first | (go_at_call 55; refine hp.out.mono ?_; rintro e w9 ⟨rfl, hb3, hg3⟩; have hB3 := grown_below (bl_trans HB.out (bl_drewN w8 1)) hg3 (by exact HB.out.size) hr; clear q0 q4 q5 x2 x3 x4 x6 x10 x11 x12 x13; obtain ⟨q0, q4, q5, x2, x3, x4, x6, x10, x11, x12, x13⟩ := CS.out w9 hB3; have HB3 := Aside0.mk hB3; have Hb3 := Aside0.mk hb3; clear hB3 hb3 hg3))
    obtain ⟨cur8, hrow⟩ := H7.out.of32 Hb3.out
    have H8 := Lib.hid hrow
    clear hp hrow Hb3 H7 HB
    have HB := Lib.hid HB3.out
    clear HB3
    obtain ⟨y18, e18⟩ := H8.out.cell hcap 18 (by decide)
    have f18 := blk_free H8.out.blk 18
    have s18 : (18 : Int) < (70 : Int) := by decide
    obtain ⟨y19, e19⟩ := H8.out.cell hcap 19 (by decide)
    have f19 := blk_free H8.out.blk 19
    have s19 : (19 : Int) < (70 : Int) := by decide
    go_wp2_with fail
    obtain ⟨cur9, hrow⟩ := H8.out.ofSet2 (o := 18) (o2 := 19) (v := 79) (v2 := 152)
    have H9 := Lib.hid hrow
    clear hrow
    have HBx := Lib.hid ((HB.out.setCell hr (.int .u8 79) (p := ⟨r, 18, none⟩)).setCell hr (.int .u8 152) (p := ⟨r, 19, none⟩))
    clear HB e18 e19 f18 f19 s18 s19 H8
    have HB := HBx
    clear HBx q0 q4 q5 x2 x3 x4 x6 x10 x11 x12 x13
    obtain ⟨q0, q4, q5, x2, x3, x4, x6, x10, x11, x12, x13⟩ := CS.out _ HB.out
    have hp : Hid (Calls Tryd.prog 51 #[.agg #[], .slice (some ⟨r, 22, none⟩) (70 - 22) (cap - 22), .int .u16 our] ((w9.setCell ⟨r, 18, none⟩ (.int .u8 79)).setCell ⟨r, 19, none⟩ (.int .u8 152)).drew (RetPut r 5 ((cur9.setIfInBounds 22 (.int .u8 (our / 256))).setIfInBounds (22 + 1) (.int .u8 (our % 256))) ((w9.setCell ⟨r, 18, none⟩ (.int .u8 79)).setCell ⟨r, 19, none⟩ (.int .u8 152)).drew)) := Lib.hid (put16 r 22 (70 - 22) (cap - 22) our 5 cur9 ((w9.setCell ⟨r, 18, none⟩ (.int .u8 79)).setCell ⟨r, 19, none⟩ (.int .u8 152)).drew H9.out.blk (by omega) (by have := H9.out.size; omega) hour.1 hour.2)
    have hc22 : ¬ cap = 22 := by omega
    have hd22 : 22 ≤ cap := by omega
    (try go_wp2_with fail)
    go_region_held3 (fun w' => w'.cell? ⟨g, 4, none⟩ = some (.pointer (some ⟨x, 0, none⟩)) ∧ w'.cell? ⟨x, 6, none⟩ = some (.int .u16 our)) (first | exact ⟨q4, x6⟩) (first | (go_at_call 51; refine hp.out.mono ?_; rintro e w11 ⟨rfl, hb3, hg3⟩; have hB3 := grown_below (bl_trans HB.out (bl_drewN ((w9.setCell ⟨r, 18, none⟩ (.int .u8 79)).setCell ⟨r, 19, none⟩ (.int .u8 152)) 1)) hg3 (by exact HB.out.size) hr; clear q0 q4 q5 x2 x3 x4 x6 x10 x11 x12 x13; obtain ⟨q0, q4, q5, x2, x3, x4, x6, x10, x11, x12, x13⟩ := CS.out w11 hB3; have HB3 := Aside0.mk hB3; have Hb3 := Aside0.mk hb3; clear hB3 hb3 hg3))
    obtain ⟨cur10, hrow⟩ := H9.out.of16 Hb3.out
    have H10 := Lib.hid hrow
    clear hp hrow Hb3 H9 HB
    have HB := Lib.hid HB3.out
    clear HB3
    have hp : Hid (Calls Tryd.prog 51 #[.agg #[], .slice (some ⟨r, 24, none⟩) (70 - 24) (cap - 24), .int .u16 (p.length : Int)] w11.drew (RetPut r 5 ((cur10.setIfInBounds 24 (.int .u8 ((p.length : Int) / 256))).setIfInBounds (24 + 1) (.int .u8 ((p.length : Int) % 256))) w11.drew)) := Lib.hid (put16 r 24 (70 - 24) (cap - 24) (p.length : Int) 5 cur10 w11.drew H10.out.blk (by omega) (by have := H10.out.size; omega) (by omega) (by omega))
    have hc24 : ¬ cap = 24 := by omega
    have hd24 : 24 ≤ cap := by omega
    (try go_wp2_with fail)
    go_region_held3 (fun w' => w'.cell? ⟨g, 5, none⟩ = some (.slice A p.length c)) (first | exact q5) (first | (go_at_call 51; refine hp.out.mono ?_; rintro e w12 ⟨rfl, hb3, hg3⟩; have hB3 := grown_below (bl_trans HB.out (bl_drewN w11 1)) hg3 (by exact HB.out.size) hr; clear q0 q4 q5 x2 x3 x4 x6 x10 x11 x12 x13; obtain ⟨q0, q4, q5, x2, x3, x4, x6, x10, x11, x12, x13⟩ := CS.out w12 hB3; have HB3 := Aside0.mk hB3; have Hb3 := Aside0.mk hb3; clear hB3 hb3 hg3))
    obtain ⟨cur11, hrow⟩ := H10.out.of16 Hb3.out
    have H11 := Lib.hid hrow
    clear hp hrow Hb3 H10 HB
    have HB := Lib.hid HB3.out
    clear HB3
    have hp : Hid (Calls Tryd.prog 51 #[.agg #[], .slice (some ⟨r, 26, none⟩) (70 - 26) (cap - 26), .int .u16 70] w12.drew (RetPut r 5 ((cur11.setIfInBounds 26 (.int .u8 (70 / 256))).setIfInBounds (26 + 1) (.int .u8 (70 % 256))) w12.drew)) := Lib.hid (put16 r 26 (70 - 26) (cap - 26) 70 5 cur11 w12.drew H11.out.blk (by omega) (by have := H11.out.size; omega) (by omega) (by omega))
    have hc26 : ¬ cap = 26 := by omega
    have hd26 : 26 ≤ cap := by omega
    (try go_wp2_with fail)
    go_region_held3 (fun w' => w'.cell? ⟨g, 0, none⟩ = some (.int .u16 70)) (first | exact q0) (first | (go_at_call 51; refine hp.out.mono ?_; rintro e w13 ⟨rfl, hb3, hg3⟩; have hB3 := grown_below (bl_trans HB.out (bl_drewN w12 1)) hg3 (by exact HB.out.size) hr; clear q0 q4 q5 x2 x3 x4 x6 x10 x11 x12 x13; obtain ⟨q0, q4, q5, x2, x3, x4, x6, x10, x11, x12, x13⟩ := CS.out w13 hB3; have HB3 := Aside0.mk hB3; have Hb3 := Aside0.mk hb3; clear hB3 hb3 hg3))
    obtain ⟨cur12, hrow⟩ := H11.out.of16 Hb3.out
    have H12 := Lib.hid hrow
    clear hp hrow Hb3 H11 HB
    have HB := Lib.hid HB3.out
    clear HB3
    obtain ⟨y32, e32⟩ := H12.out.cell hcap 32 (by decide)
    have f32 := blk_free H12.out.blk 32
    have s32 : (32 : Int) < (70 : Int) := by decide
    obtain ⟨y33, e33⟩ := H12.out.cell hcap 33 (by decide)
    have f33 := blk_free H12.out.blk 33
    have s33 : (33 : Int) < (70 : Int) := by decide
    have hgr : ¬ g = r := by omega
    have hxr : ¬ x = r := by omega
    have q4' : ∀ u, (w13.setCell ⟨r, 32, none⟩ u).cell? ⟨g, 4, none⟩ = some (.pointer (some ⟨x, 0, none⟩)) := fun u => (set_far hgr).trans q4
    have x11' : ∀ u, (w13.setCell ⟨r, 32, none⟩ u).cell? ⟨x, 11, none⟩ = some (.int .u8 1) := fun u => (set_far hxr).trans x11
    have q5' : ∀ u u', ((w13.setCell ⟨r, 32, none⟩ u).setCell ⟨r, 33, none⟩ u').cell? ⟨g, 5, none⟩ = some (.slice A p.length c) := fun u u' => ((set_far hgr).trans (set_far hgr)).trans q5
    obtain ⟨curz, hrow⟩ := H12.out.ofSet2 (o := 32) (o2 := 33) (v := 1) (v2 := 1)
    have HZ := Lib.hid hrow
    clear hrow
    have HBz : Hid (Below w.heap.size w ((w13.setCell ⟨r, 32, none⟩ (.int .u8 1)).setCell ⟨r, 33, none⟩ (.int .u8 1))) := Lib.hid ((HB.out.setCell hr _).setCell hr _)
    have HO : Hid (Kd.R (Kd.int .u8) 5 ((w13.setCell ⟨r, 32, none⟩ (.int .u8 1)).setCell ⟨r, 33, none⟩ (.int .u8 1)) w.heap.size (fun _ => True) (.slice (some ⟨r, 0, none⟩) 70 cap) LL) := Lib.hid (by rw [hE.out]; exact whole_row' (by simp only [List.length_set, p16_length, p32_length]; exact hl70.out) HZ.out.blk HZ.out.size hm hcap HZ.out.take hr)
    have hll : Hid (LL.length = 70) := Lib.hid (by rw [hE.out]; simp only [List.length_set, p16_length, p32_length]; exact hl70.out)
    clear HB H12
    by_cases h230 : p.length ≤ 230
    · have t230 : decide ((p.length : Int) ≤ 230) = true := by simp; omega
      have hLT : LL ++ p = LT := by have := HLT.out; rw [if_pos h230] at this; exact this
      have HLT' := Lib.hid hLT
      clear hLT HLT
      go_wp2_with (first | (at_builtin; refine Kd.R_append_rows (Kd.int .u8) (w0 := w) w.heap.size rfl (.tmp 180) (.tmp 184) 24 5 (.int .u8 0) 1 rfl Tryd.underlying24 info5x rfl (by decide) (by omega) (.slice (some ⟨r, 0, none⟩) 70 cap) LL p _ _ _ (fun _ => True) (fun _ => False) rfl rfl ?aO ?aR (fun _ _ h => h) (fun _ h => h.elim) ?aF ?aB ?aS ?aL ?_; (case aR => exact (Kd.C_below HC.out HBz.out)); (case aB => exact HBz.out); (case aF => exact (fun _ _ => trivial)); (case aO => exact HO.out); (case aS => exact HBz.out.size); (case aL => have := hll.out; omega); intro v256 w5 ho hb hg hat; have HO2 := Aside0.mk ho; have HB2 := Aside0.mk hb; clear ho hb hg hat))
      go_ret
      exact ⟨_, rfl, by rw [← HLT'.out]; exact HO2.out, HB2.out⟩
    · have t230 : decide ((p.length : Int) ≤ 230) = false := by simp; omega
      have hLT : LL = LT := by have := HLT.out; rw [if_neg h230, List.append_nil] at this; exact this
      have HLT' := Lib.hid hLT
      clear hLT HLT
      go_wp2
      go_ret
      refine ⟨_, rfl, ?_, HBz.out⟩
      rw [← HLT'.out]
      exact HO.out
end Go.Proofs.YtpacjdlgnoiheaaDoor.X
