/- PutUint and PutInt of a session: compressed numbers, numbers of a size. -/
import Derived.Test.YtdnahdddkagfhaaDoorWu
namespace Go.Proofs.YtdnahdddkagfhaaDoor.X
open Go.RowKit Go.Proofs.YtdnahdddkagfhaaDoorW.PrintWords Go.Proofs.YtdnahdddkagfhaaDoorW.PrintMore
attribute [local go_sem] setCell_drewN alloc_drewN
set_option linter.unusedVariables false
set_option linter.unusedSimpArgs false
namespace Ses
theorem ta_uint64_int64 (x : Value) (w : World) : (Instr.typeAssert (.iface 27 x) 20 2 true).run Tryd.prog w = .ok (.tuple #[.int .i64 0, .bool false]) w := by kernel_rfl
theorem ta_uint64_int32 (x : Value) (w : World) : (Instr.typeAssert (.iface 27 x) 20 21 true).run Tryd.prog w = .ok (.tuple #[.int .i32 0, .bool false]) w := by kernel_rfl
theorem ta_uint64_int16 (x : Value) (w : World) : (Instr.typeAssert (.iface 27 x) 20 103 true).run Tryd.prog w = .ok (.tuple #[.int .i16 0, .bool false]) w := by kernel_rfl
theorem ta_uint64_int8 (x : Value) (w : World) : (Instr.typeAssert (.iface 27 x) 20 77 true).run Tryd.prog w = .ok (.tuple #[.int .i8 0, .bool false]) w := by kernel_rfl
theorem ta_uint64_uint64 (x : Value) (w : World) : (Instr.typeAssert (.iface 27 x) 20 27 true).run Tryd.prog w = .ok (.tuple #[x, .bool true]) w := by kernel_rfl
theorem ta_int64_int64 (x : Value) (w : World) : (Instr.typeAssert (.iface 2 x) 20 2 true).run Tryd.prog w = .ok (.tuple #[x, .bool true]) w := by kernel_rfl
theorem ta_int_int64 (x : Value) (w : World) : (Instr.typeAssert (.iface 3 x) 20 2 true).run Tryd.prog w = .ok (.tuple #[.int .i64 0, .bool false]) w := by kernel_rfl
theorem ta_int_int32 (x : Value) (w : World) : (Instr.typeAssert (.iface 3 x) 20 21 true).run Tryd.prog w = .ok (.tuple #[.int .i32 0, .bool false]) w := by kernel_rfl
theorem ta_int_int16 (x : Value) (w : World) : (Instr.typeAssert (.iface 3 x) 20 103 true).run Tryd.prog w = .ok (.tuple #[.int .i16 0, .bool false]) w := by kernel_rfl
theorem ta_int_int8 (x : Value) (w : World) : (Instr.typeAssert (.iface 3 x) 20 77 true).run Tryd.prog w = .ok (.tuple #[.int .i8 0, .bool false]) w := by kernel_rfl
theorem ta_int_uint64 (x : Value) (w : World) : (Instr.typeAssert (.iface 3 x) 20 27 true).run Tryd.prog w = .ok (.tuple #[.int .u64 0, .bool false]) w := by kernel_rfl
theorem ta_int_uint32 (x : Value) (w : World) : (Instr.typeAssert (.iface 3 x) 20 104 true).run Tryd.prog w = .ok (.tuple #[.int .u32 0, .bool false]) w := by kernel_rfl
theorem ta_int_uint16 (x : Value) (w : World) : (Instr.typeAssert (.iface 3 x) 20 52 true).run Tryd.prog w = .ok (.tuple #[.int .u16 0, .bool false]) w := by kernel_rfl
theorem ta_int_uint8 (x : Value) (w : World) : (Instr.typeAssert (.iface 3 x) 20 5 true).run Tryd.prog w = .ok (.tuple #[.int .u8 0, .bool false]) w := by kernel_rfl
theorem ta_int_uint (x : Value) (w : World) : (Instr.typeAssert (.iface 3 x) 20 42 true).run Tryd.prog w = .ok (.tuple #[.int .u64 0, .bool false]) w := by kernel_rfl
theorem ta_int_int (x : Value) (w : World) : (Instr.typeAssert (.iface 3 x) 20 3 true).run Tryd.prog w = .ok (.tuple #[x, .bool true]) w := by kernel_rfl
theorem ta_uint8_int64 (x : Value) (w : World) : (Instr.typeAssert (.iface 5 x) 20 2 true).run Tryd.prog w = .ok (.tuple #[.int .i64 0, .bool false]) w := by kernel_rfl
theorem ta_uint8_int32 (x : Value) (w : World) : (Instr.typeAssert (.iface 5 x) 20 21 true).run Tryd.prog w = .ok (.tuple #[.int .i32 0, .bool false]) w := by kernel_rfl
theorem ta_uint8_int16 (x : Value) (w : World) : (Instr.typeAssert (.iface 5 x) 20 103 true).run Tryd.prog w = .ok (.tuple #[.int .i16 0, .bool false]) w := by kernel_rfl
theorem ta_uint8_int8 (x : Value) (w : World) : (Instr.typeAssert (.iface 5 x) 20 77 true).run Tryd.prog w = .ok (.tuple #[.int .i8 0, .bool false]) w := by kernel_rfl
theorem ta_uint8_uint64 (x : Value) (w : World) : (Instr.typeAssert (.iface 5 x) 20 27 true).run Tryd.prog w = .ok (.tuple #[.int .u64 0, .bool false]) w := by kernel_rfl
theorem ta_uint8_uint32 (x : Value) (w : World) : (Instr.typeAssert (.iface 5 x) 20 104 true).run Tryd.prog w = .ok (.tuple #[.int .u32 0, .bool false]) w := by kernel_rfl
theorem ta_uint8_uint16 (x : Value) (w : World) : (Instr.typeAssert (.iface 5 x) 20 52 true).run Tryd.prog w = .ok (.tuple #[.int .u16 0, .bool false]) w := by kernel_rfl
theorem ta_uint8_uint8 (x : Value) (w : World) : (Instr.typeAssert (.iface 5 x) 20 5 true).run Tryd.prog w = .ok (.tuple #[x, .bool true]) w := by kernel_rfl
def zeros2b : Array Value := #[.int .u8 0, .int .u8 0]
theorem mk2 (W : World) : (Instr.makeSlice 22 (.int .u8 2) (.int .u8 2)).run Tryd.prog W = .ok (.slice (some ⟨W.heap.size, 0, none⟩) 2 2) (W.alloc (.cells zeros2b 5)) := by
  have hi5 : (Tryd.prog.info? 5).map (fun i => (i.zero, i.size, i.bytes)) = some (some (.int .u8 0), 1, 1) := by kernel_rfl
  obtain ⟨i0, hi, hz0, hz1, hz2⟩ := info_parts hi5
  have h := run_makeSlice (P := Tryd.prog) W 22 5 i0 (.int .u8 0) Tryd.underlying22 hi hz0 .u8 .u8 2 2 (by omega) (by omega) (by rw [hz1]; decide) (by rw [hz2]; decide) (by decide)
  rw [hz1] at h
  have e : madeCells (Value.int .u8 0).cells ((2 : Int).toNat * 1) = zeros2b := by
    apply Array.ext'
    unfold madeCells
    rw [Array.toList_map, Array.toList_range]
    rfl
  rw [e] at h
  exact h
def zeros4b : Array Value := #[.int .u8 0, .int .u8 0, .int .u8 0, .int .u8 0]
theorem mk4 (W : World) : (Instr.makeSlice 22 (.int .u8 4) (.int .u8 4)).run Tryd.prog W = .ok (.slice (some ⟨W.heap.size, 0, none⟩) 4 4) (W.alloc (.cells zeros4b 5)) := by
  have hi5 : (Tryd.prog.info? 5).map (fun i => (i.zero, i.size, i.bytes)) = some (some (.int .u8 0), 1, 1) := by kernel_rfl
  obtain ⟨i0, hi, hz0, hz1, hz2⟩ := info_parts hi5
  have h := run_makeSlice (P := Tryd.prog) W 22 5 i0 (.int .u8 0) Tryd.underlying22 hi hz0 .u8 .u8 4 4 (by omega) (by omega) (by rw [hz1]; decide) (by rw [hz2]; decide) (by decide)
  rw [hz1] at h
  have e : madeCells (Value.int .u8 0).cells ((4 : Int).toNat * 1) = zeros4b := by
    apply Array.ext'
    unfold madeCells
    rw [Array.toList_map, Array.toList_range]
    rfl
  rw [e] at h
  exact h
def zeros8b : Array Value := #[.int .u8 0, .int .u8 0, .int .u8 0, .int .u8 0, .int .u8 0, .int .u8 0, .int .u8 0, .int .u8 0]
theorem mk8 (W : World) : (Instr.makeSlice 22 (.int .u8 8) (.int .u8 8)).run Tryd.prog W = .ok (.slice (some ⟨W.heap.size, 0, none⟩) 8 8) (W.alloc (.cells zeros8b 5)) := by
  have hi5 : (Tryd.prog.info? 5).map (fun i => (i.zero, i.size, i.bytes)) = some (some (.int .u8 0), 1, 1) := by kernel_rfl
  obtain ⟨i0, hi, hz0, hz1, hz2⟩ := info_parts hi5
  have h := run_makeSlice (P := Tryd.prog) W 22 5 i0 (.int .u8 0) Tryd.underlying22 hi hz0 .u8 .u8 8 8 (by omega) (by omega) (by rw [hz1]; decide) (by rw [hz2]; decide) (by decide)
  rw [hz1] at h
  have e : madeCells (Value.int .u8 0).cells ((8 : Int).toNat * 1) = zeros8b := by
    apply Array.ext'
    unfold madeCells
    rw [Array.toList_map, Array.toList_range]
    rfl
  rw [e] at h
  exact h
theorem mk8i (W : World) : (Instr.makeSlice 22 (.int .i64 8) (.int .i64 8)).run Tryd.prog W = .ok (.slice (some ⟨W.heap.size, 0, none⟩) 8 8) (W.alloc (.cells zeros8b 5)) := by
  have hi5 : (Tryd.prog.info? 5).map (fun i => (i.zero, i.size, i.bytes)) = some (some (.int .u8 0), 1, 1) := by kernel_rfl
  obtain ⟨i0, hi, hz0, hz1, hz2⟩ := info_parts hi5
  have h := run_makeSlice (P := Tryd.prog) W 22 5 i0 (.int .u8 0) Tryd.underlying22 hi hz0 .i64 .i64 8 8 (by omega) (by omega) (by rw [hz1]; decide) (by rw [hz2]; decide) (by decide)
  rw [hz1] at h
  have e : madeCells (Value.int .u8 0).cells ((8 : Int).toNat * 1) = zeros8b := by
    apply Array.ext'
    unfold madeCells
    rw [Array.toList_map, Array.toList_range]
    rfl
  rw [e] at h
  exact h
theorem below_put {w w2 : World} {o : Obj} (h : (w.alloc o).grownBy w2 (some w.heap.size)) : Below w.heap.size w w2 := grown_below (below_alloc (Below.refl _ _) o) h (by rw [World.size_alloc]; omega) (Nat.le_refl _)
end Ses
set_option maxHeartbeats 4000000 in
set_option maxRecDepth 100000 in
theorem putUint_packed (b g : Nat) (big : Bool) (chunk : Int) (out : List Int) (n sz : Nat) (be : Bool) (w : World) (h : Ses.WS w b g big chunk out) (hs1 : 2 ≤ sz) (hs2 : sz ≤ 8) (hn : (n : Int) < 256 ^ sz) (hn2 : (n : Int) < 18446744073709551616) (hlim : out.length + 9 ≤ 140737488355328) :
    Calls Tryd.prog 43 #[.pointer (some ⟨b, 0, none⟩), .iface 27 (.int .u64 n), .int .u8 sz, .bool be, .bool true] w (Ses.WP (.tuple #[]) b g big chunk (out ++ Dg.packed n) w) := by
  have hn8 : (n : Int) < 256 ^ 8 := by have e : (256 : Int) ^ 8 = 18446744073709551616 := by decide
                                       omega
  have hds := Dg.dgF_short 8 sz (n : Int) (by omega) hn
  have htr := Dg.trim_dg 8 (n : Int) (by omega) hn8
  have hpb : (Dg.dgF 8 (n : Int)).length ≤ 8 := Dg.dgF_len 8 n
  have htb := h.lt
  have htg := h.ltg
  have e1 : ((sz : Int) == 1) = false := beq_eq_false_iff_ne.2 (by omega)
  have HMk := Ses.mk8i
  have HPut := Lib.hid (fun W : World => Ses.bePut8 W.heap.size 8 n Ses.zeros8b (W.alloc (.cells Ses.zeros8b 5)) (by omega) (xb_new W _) rfl)
  have HTr := Lib.hid (fun (W : World) (h : Ses.RowAt W w.heap.size (Dg.plainL 8 (n : Int)).reverse) => trimZeros_ok w.heap.size 8 (Dg.plainL 8 (n : Int)).reverse W (by rw [List.length_reverse, Dg.plainL_len]) (by omega) (by omega) h)
  rw [htr] at HTr
  have hpk : out ++ Dg.packed (n : Int) = (out ++ [((Dg.dgF 8 (n : Int)).length : Int)]) ++ (Dg.dgF 8 (n : Int)).reverse := by rw [List.append_assoc]; rfl
  rw [hpk]
  obtain ⟨p, hp⟩ : ∃ p, p = (Dg.dgF 8 (n : Int)).reverse := ⟨_, rfl⟩
  have hpl : (Dg.dgF 8 (n : Int)).length = p.length := by rw [hp, List.length_reverse]
  rw [← hp] at HTr ⊢
  rw [hpl] at hds hpb ⊢
  have HP := Lib.hid hp
  have HB1 := Lib.hid (fun W b h hz => Ses.ws_byte b g big chunk out 0 W h hz)
  clear htr hpk hp hpl hn hn8
  have HWS := Lib.hid h
  have pu : IntKind.u64.wrap (n : Int) = (n : Int) := by simp [IntKind.wrap, IntKind.bits, IntKind.signed]; omega
  have HLim := Lib.hid hlim
  clear hn2
  have t0 := Ses.ta_uint64_int64; have t1 := Ses.ta_uint64_int32; have t2 := Ses.ta_uint64_int16; have t3 := Ses.ta_uint64_int8; have t4 := Ses.ta_uint64_uint64
  obtain ⟨k, hk⟩ : ∃ k, k = p.length := ⟨_, rfl⟩
  have HK := Lib.hid hk
  have hk8 : k ≤ 8 := by omega
  have hks : k ≤ sz := by omega
  have hmod : (k : Int) % 256 = k := by omega
  clear h hk hds hpb hlim
  have HNb := Lib.hid (show ¬ w.heap.size = b by omega)
  have HNg := Lib.hid (show ¬ w.heap.size = g by omega)
  have HBy := Lib.hid (fun (W : World) (h : Ses.WS W b g big chunk out) => Ses.ws_byte b g big chunk out (k : Int) W h (by have := HLim.out; omega))
  have HWr := Lib.hid (fun (W : World) (g' o c : Nat) (h : Ses.WS W b g' big chunk (out ++ [(k : Int)])) (hC : Kd.C (Kd.int .u8) W (some ⟨w.heap.size, o, none⟩) p.length p) => Ses.ws_write b g' big chunk (out ++ [(k : Int)]) p (some ⟨w.heap.size, o, none⟩) c W h hC (fun a e => by injection e with e; subst e; exact HNb.out) (by have := HK.out; have := HLim.out; rw [List.length_append, List.length_singleton]; omega))
  rw [← HK.out] at HWr
  have HW3 : Hid (∀ W : World, (w.alloc (.cells Ses.zeros8b 5)).grownBy W (some w.heap.size) → Ses.WS W b g big chunk out) := Lib.hid (fun W hW => (HWS.out.bl (below_alloc (Below.refl _ _) _)).grown hW (fun e => HNb.out (Option.some.inj e).symm) (fun e => HNg.out (Option.some.inj e).symm))
  have HCk : Hid (∀ (W W' : World) (g' o : Nat), Kd.C (Kd.int .u8) W (some ⟨w.heap.size, o, none⟩) p.length p → Ses.WStep W W' b g g' big chunk (out ++ [(k : Int)]) → Kd.C (Kd.int .u8) W' (some ⟨w.heap.size, o, none⟩) k p) := Lib.hid (fun W W' g' o hC hS => by
    have h := Ses.C_kp2 hC hS.kept (fun a e => by injection e with e; subst e; exact HNb.out) (fun a e => by injection e with e; subst e; exact HNg.out)
    rw [HK.out]
    exact h)
  rw [← HK.out]
  by_cases hz0 : k = 0
  · have hp0 : p = [] := List.eq_nil_of_length_eq_zero (HK.out.symm.trans hz0)
    subst hz0
    rw [Int.ofNat_zero] at HBy
    rw [hp0, List.append_nil]
    clear hp0
    have hsz : 0 < sz := by omega
    go_enter Tryd.func43, Tryd.ntmps43
    go_wp2_with (first | (go_at_call 60; (with_reducible refine (HPut.out _).mono ?_); rintro e w2 ⟨rfl, hrow, hgr⟩; have HRow := Lib.hid hrow; have HGr := Lib.hid hgr; clear hrow hgr) | (go_at_call 61; (with_reducible refine (HTr.out _ HRow.out).mono ?_); rintro e w3 ⟨o, c, rfl, hC, rfl⟩; have HCp := Lib.hid hC; clear hC; rw [HK.out.symm]) | (go_at_call 59; (with_reducible refine (HBy.out _ ?hws).mono ?_); (case hws => exact HW3.out _ HGr.out); rintro e w4 ⟨rfl, g4, hst⟩; have HSt := Lib.hid hst; clear hst))
    go_end0
    exact ⟨rfl, g4, HSt.out.prior (Ses.below_put HGr.out) htg⟩
  · have tz : ((k : Int) == 0) = false := beq_eq_false_iff_ne.2 (by omega)
    by_cases hgt : k < sz
    · go_enter Tryd.func43, Tryd.ntmps43
      go_wp2_with (first | (go_at_call 60; (with_reducible refine (HPut.out _).mono ?_); rintro e w2 ⟨rfl, hrow, hgr⟩; have HRow := Lib.hid hrow; have HGr := Lib.hid hgr; clear hrow hgr) | (go_at_call 61; (with_reducible refine (HTr.out _ HRow.out).mono ?_); rintro e w3 ⟨o, c, rfl, hC, rfl⟩; have HCp := Lib.hid hC; clear hC; rw [HK.out.symm]) | (go_at_call 59; (with_reducible refine (HBy.out _ ?hws).mono ?_); (case hws => exact HW3.out _ HGr.out); rintro e w4 ⟨rfl, g4, hst⟩; have HSt := Lib.hid hst; clear hst) | (go_at_call 58; (with_reducible refine (HWr.out _ g4 o c ?hws ?hC).mono ?_); (case hws => exact HSt.out.now); (case hC => exact HCk.out _ _ _ _ HCp.out HSt.out); rintro e w5 ⟨rfl, g5, hst⟩; have HSu := Lib.hid hst; clear hst))
      go_end0
      exact ⟨rfl, g5, (HSt.out.trans HSu.out).prior (Ses.below_put HGr.out) htg⟩
    · obtain rfl : sz = k := by omega
      go_enter Tryd.func43, Tryd.ntmps43
      go_wp2_with (first | (go_at_call 60; (with_reducible refine (HPut.out _).mono ?_); rintro e w2 ⟨rfl, hrow, hgr⟩; have HRow := Lib.hid hrow; have HGr := Lib.hid hgr; clear hrow hgr) | (go_at_call 61; (with_reducible refine (HTr.out _ HRow.out).mono ?_); rintro e w3 ⟨o, c, rfl, hC, rfl⟩; have HCp := Lib.hid hC; clear hC; rw [HK.out.symm]) | (go_at_call 59; (with_reducible refine (HBy.out _ ?hws).mono ?_); (case hws => exact HW3.out _ HGr.out); rintro e w4 ⟨rfl, g4, hst⟩; have HSt := Lib.hid hst; clear hst) | (go_at_call 58; (with_reducible refine (HWr.out _ g4 o c ?hws ?hC).mono ?_); (case hws => exact HSt.out.now); (case hC => exact HCk.out _ _ _ _ HCp.out HSt.out); rintro e w5 ⟨rfl, g5, hst⟩; have HSu := Lib.hid hst; clear hst))
      go_end0
      exact ⟨rfl, g5, (HSt.out.trans HSu.out).prior (Ses.below_put HGr.out) htg⟩
set_option maxHeartbeats 4000000 in
set_option maxRecDepth 100000 in
theorem putUint_packed_int (b g : Nat) (big : Bool) (chunk : Int) (out : List Int) (n sz : Nat) (be : Bool) (w : World) (h : Ses.WS w b g big chunk out) (hs1 : 2 ≤ sz) (hs2 : sz ≤ 8) (hn : (n : Int) < 256 ^ sz) (hn2 : (n : Int) < 9223372036854775808) (hlim : out.length + 9 ≤ 140737488355328) :
    Calls Tryd.prog 43 #[.pointer (some ⟨b, 0, none⟩), .iface 3 (.int .i64 n), .int .u8 sz, .bool be, .bool true] w (Ses.WP (.tuple #[]) b g big chunk (out ++ Dg.packed n) w) := by
  have hn8 : (n : Int) < 256 ^ 8 := by have e : (256 : Int) ^ 8 = 18446744073709551616 := by decide
                                       omega
  have hds := Dg.dgF_short 8 sz (n : Int) (by omega) hn
  have htr := Dg.trim_dg 8 (n : Int) (by omega) hn8
  have hpb : (Dg.dgF 8 (n : Int)).length ≤ 8 := Dg.dgF_len 8 n
  have htb := h.lt
  have htg := h.ltg
  have e1 : ((sz : Int) == 1) = false := beq_eq_false_iff_ne.2 (by omega)
  have HMk := Ses.mk8i
  have HPut := Lib.hid (fun W : World => Ses.bePut8 W.heap.size 8 n Ses.zeros8b (W.alloc (.cells Ses.zeros8b 5)) (by omega) (xb_new W _) rfl)
  have HTr := Lib.hid (fun (W : World) (h : Ses.RowAt W w.heap.size (Dg.plainL 8 (n : Int)).reverse) => trimZeros_ok w.heap.size 8 (Dg.plainL 8 (n : Int)).reverse W (by rw [List.length_reverse, Dg.plainL_len]) (by omega) (by omega) h)
  rw [htr] at HTr
  have hpk : out ++ Dg.packed (n : Int) = (out ++ [((Dg.dgF 8 (n : Int)).length : Int)]) ++ (Dg.dgF 8 (n : Int)).reverse := by rw [List.append_assoc]; rfl
  rw [hpk]
  obtain ⟨p, hp⟩ : ∃ p, p = (Dg.dgF 8 (n : Int)).reverse := ⟨_, rfl⟩
  have hpl : (Dg.dgF 8 (n : Int)).length = p.length := by rw [hp, List.length_reverse]
  rw [← hp] at HTr ⊢
  rw [hpl] at hds hpb ⊢
  have HP := Lib.hid hp
  have HB1 := Lib.hid (fun W b h hz => Ses.ws_byte b g big chunk out 0 W h hz)
  clear htr hpk hp hpl hn hn8
  have HWS := Lib.hid h
  have pu : IntKind.u64.wrap (n : Int) = (n : Int) := by simp [IntKind.wrap, IntKind.bits, IntKind.signed]; omega
  have HLim := Lib.hid hlim
  clear hn2
  have t0 := Ses.ta_int_int64; have t1 := Ses.ta_int_int32; have t2 := Ses.ta_int_int16; have t3 := Ses.ta_int_int8; have t4 := Ses.ta_int_uint64; have t5 := Ses.ta_int_uint32; have t6 := Ses.ta_int_uint16; have t7 := Ses.ta_int_uint8; have t8 := Ses.ta_int_uint; have t9 := Ses.ta_int_int
  obtain ⟨k, hk⟩ : ∃ k, k = p.length := ⟨_, rfl⟩
  have HK := Lib.hid hk
  have hk8 : k ≤ 8 := by omega
  have hks : k ≤ sz := by omega
  have hmod : (k : Int) % 256 = k := by omega
  clear h hk hds hpb hlim
  have HNb := Lib.hid (show ¬ w.heap.size = b by omega)
  have HNg := Lib.hid (show ¬ w.heap.size = g by omega)
  have HBy := Lib.hid (fun (W : World) (h : Ses.WS W b g big chunk out) => Ses.ws_byte b g big chunk out (k : Int) W h (by have := HLim.out; omega))
  have HWr := Lib.hid (fun (W : World) (g' o c : Nat) (h : Ses.WS W b g' big chunk (out ++ [(k : Int)])) (hC : Kd.C (Kd.int .u8) W (some ⟨w.heap.size, o, none⟩) p.length p) => Ses.ws_write b g' big chunk (out ++ [(k : Int)]) p (some ⟨w.heap.size, o, none⟩) c W h hC (fun a e => by injection e with e; subst e; exact HNb.out) (by have := HK.out; have := HLim.out; rw [List.length_append, List.length_singleton]; omega))
  rw [← HK.out] at HWr
  have HW3 : Hid (∀ W : World, (w.alloc (.cells Ses.zeros8b 5)).grownBy W (some w.heap.size) → Ses.WS W b g big chunk out) := Lib.hid (fun W hW => (HWS.out.bl (below_alloc (Below.refl _ _) _)).grown hW (fun e => HNb.out (Option.some.inj e).symm) (fun e => HNg.out (Option.some.inj e).symm))
  have HCk : Hid (∀ (W W' : World) (g' o : Nat), Kd.C (Kd.int .u8) W (some ⟨w.heap.size, o, none⟩) p.length p → Ses.WStep W W' b g g' big chunk (out ++ [(k : Int)]) → Kd.C (Kd.int .u8) W' (some ⟨w.heap.size, o, none⟩) k p) := Lib.hid (fun W W' g' o hC hS => by
    have h := Ses.C_kp2 hC hS.kept (fun a e => by injection e with e; subst e; exact HNb.out) (fun a e => by injection e with e; subst e; exact HNg.out)
    rw [HK.out]
    exact h)
  rw [← HK.out]
  by_cases hz0 : k = 0
  · have hp0 : p = [] := List.eq_nil_of_length_eq_zero (HK.out.symm.trans hz0)
    subst hz0
    rw [Int.ofNat_zero] at HBy
    rw [hp0, List.append_nil]
    clear hp0
    have hsz : 0 < sz := by omega
    go_enter Tryd.func43, Tryd.ntmps43
    go_wp2_with (first | (go_at_call 60; (with_reducible refine (HPut.out _).mono ?_); rintro e w2 ⟨rfl, hrow, hgr⟩; have HRow := Lib.hid hrow; have HGr := Lib.hid hgr; clear hrow hgr) | (go_at_call 61; (with_reducible refine (HTr.out _ HRow.out).mono ?_); rintro e w3 ⟨o, c, rfl, hC, rfl⟩; have HCp := Lib.hid hC; clear hC; rw [HK.out.symm]) | (go_at_call 59; (with_reducible refine (HBy.out _ ?hws).mono ?_); (case hws => exact HW3.out _ HGr.out); rintro e w4 ⟨rfl, g4, hst⟩; have HSt := Lib.hid hst; clear hst))
    go_end0
    exact ⟨rfl, g4, HSt.out.prior (Ses.below_put HGr.out) htg⟩
  · have tz : ((k : Int) == 0) = false := beq_eq_false_iff_ne.2 (by omega)
    by_cases hgt : k < sz
    · go_enter Tryd.func43, Tryd.ntmps43
      go_wp2_with (first | (go_at_call 60; (with_reducible refine (HPut.out _).mono ?_); rintro e w2 ⟨rfl, hrow, hgr⟩; have HRow := Lib.hid hrow; have HGr := Lib.hid hgr; clear hrow hgr) | (go_at_call 61; (with_reducible refine (HTr.out _ HRow.out).mono ?_); rintro e w3 ⟨o, c, rfl, hC, rfl⟩; have HCp := Lib.hid hC; clear hC; rw [HK.out.symm]) | (go_at_call 59; (with_reducible refine (HBy.out _ ?hws).mono ?_); (case hws => exact HW3.out _ HGr.out); rintro e w4 ⟨rfl, g4, hst⟩; have HSt := Lib.hid hst; clear hst) | (go_at_call 58; (with_reducible refine (HWr.out _ g4 o c ?hws ?hC).mono ?_); (case hws => exact HSt.out.now); (case hC => exact HCk.out _ _ _ _ HCp.out HSt.out); rintro e w5 ⟨rfl, g5, hst⟩; have HSu := Lib.hid hst; clear hst))
      go_end0
      exact ⟨rfl, g5, (HSt.out.trans HSu.out).prior (Ses.below_put HGr.out) htg⟩
    · obtain rfl : sz = k := by omega
      go_enter Tryd.func43, Tryd.ntmps43
      go_wp2_with (first | (go_at_call 60; (with_reducible refine (HPut.out _).mono ?_); rintro e w2 ⟨rfl, hrow, hgr⟩; have HRow := Lib.hid hrow; have HGr := Lib.hid hgr; clear hrow hgr) | (go_at_call 61; (with_reducible refine (HTr.out _ HRow.out).mono ?_); rintro e w3 ⟨o, c, rfl, hC, rfl⟩; have HCp := Lib.hid hC; clear hC; rw [HK.out.symm]) | (go_at_call 59; (with_reducible refine (HBy.out _ ?hws).mono ?_); (case hws => exact HW3.out _ HGr.out); rintro e w4 ⟨rfl, g4, hst⟩; have HSt := Lib.hid hst; clear hst) | (go_at_call 58; (with_reducible refine (HWr.out _ g4 o c ?hws ?hC).mono ?_); (case hws => exact HSt.out.now); (case hC => exact HCk.out _ _ _ _ HCp.out HSt.out); rintro e w5 ⟨rfl, g5, hst⟩; have HSu := Lib.hid hst; clear hst))
      go_end0
      exact ⟨rfl, g5, (HSt.out.trans HSu.out).prior (Ses.below_put HGr.out) htg⟩
set_option maxHeartbeats 4000000 in
set_option maxRecDepth 100000 in
theorem putInt_packed (b g : Nat) (big : Bool) (chunk : Int) (out : List Int) (n sz : Nat) (be : Bool) (w : World) (h : Ses.WS w b g big chunk out) (hs1 : 1 ≤ sz) (hs2 : sz ≤ 8) (hn : (n : Int) < 256 ^ sz) (hn2 : (n : Int) < 9223372036854775808) (hlim : out.length + 9 ≤ 140737488355328) :
    Calls Tryd.prog 42 #[.pointer (some ⟨b, 0, none⟩), .iface 2 (.int .i64 n), .int .u8 sz, .bool be, .bool true] w (Ses.WP (.tuple #[]) b g big chunk (out ++ Dg.packed n) w) := by
  have hn8 : (n : Int) < 256 ^ 8 := by have e : (256 : Int) ^ 8 = 18446744073709551616 := by decide
                                       omega
  have hds := Dg.dgF_short 8 sz (n : Int) (by omega) hn
  have htr := Dg.trim_dg 8 (n : Int) (by omega) hn8
  have hpb : (Dg.dgF 8 (n : Int)).length ≤ 8 := Dg.dgF_len 8 n
  have htb := h.lt
  have htg := h.ltg
  have HMk := Ses.mk8i
  have HPut := Lib.hid (fun W : World => Ses.bePut8 W.heap.size 8 n Ses.zeros8b (W.alloc (.cells Ses.zeros8b 5)) (by omega) (xb_new W _) rfl)
  have HTr := Lib.hid (fun (W : World) (h : Ses.RowAt W w.heap.size (Dg.plainL 8 (n : Int)).reverse) => trimZeros_ok w.heap.size 8 (Dg.plainL 8 (n : Int)).reverse W (by rw [List.length_reverse, Dg.plainL_len]) (by omega) (by omega) h)
  rw [htr] at HTr
  have hpk : out ++ Dg.packed (n : Int) = (out ++ [((Dg.dgF 8 (n : Int)).length : Int)]) ++ (Dg.dgF 8 (n : Int)).reverse := by rw [List.append_assoc]; rfl
  rw [hpk]
  obtain ⟨p, hp⟩ : ∃ p, p = (Dg.dgF 8 (n : Int)).reverse := ⟨_, rfl⟩
  have hpl : (Dg.dgF 8 (n : Int)).length = p.length := by rw [hp, List.length_reverse]
  rw [← hp] at HTr ⊢
  rw [hpl] at hds hpb ⊢
  have HP := Lib.hid hp
  have HB1 := Lib.hid (fun W b h hz => Ses.ws_byte b g big chunk out 0 W h hz)
  clear htr hpk hp hpl hn hn8
  have HWS := Lib.hid h
  have pu : IntKind.u64.wrap (n : Int) = (n : Int) := by simp [IntKind.wrap, IntKind.bits, IntKind.signed]; omega
  have pi : IntKind.i64.wrap (n : Int) = (n : Int) := (IntKind.wrap_i64 _).trans (by omega)
  have tn : decide ((n : Int) < 0) = false := decide_eq_false (by omega)
  have HLim := Lib.hid hlim
  clear hn2
  have t0 := Ses.ta_int64_int64
  obtain ⟨k, hk⟩ : ∃ k, k = p.length := ⟨_, rfl⟩
  have HK := Lib.hid hk
  have hk8 : k ≤ 8 := by omega
  have hks : k ≤ sz := by omega
  have hmod : (k : Int) % 256 = k := by omega
  clear h hk hds hpb hlim
  have HNb := Lib.hid (show ¬ w.heap.size = b by omega)
  have HNg := Lib.hid (show ¬ w.heap.size = g by omega)
  have HBy := Lib.hid (fun (W : World) (h : Ses.WS W b g big chunk out) => Ses.ws_byte b g big chunk out (k : Int) W h (by have := HLim.out; omega))
  have HWr := Lib.hid (fun (W : World) (g' o c : Nat) (h : Ses.WS W b g' big chunk (out ++ [(k : Int)])) (hC : Kd.C (Kd.int .u8) W (some ⟨w.heap.size, o, none⟩) p.length p) => Ses.ws_write b g' big chunk (out ++ [(k : Int)]) p (some ⟨w.heap.size, o, none⟩) c W h hC (fun a e => by injection e with e; subst e; exact HNb.out) (by have := HK.out; have := HLim.out; rw [List.length_append, List.length_singleton]; omega))
  rw [← HK.out] at HWr
  have HW3 : Hid (∀ W : World, (w.alloc (.cells Ses.zeros8b 5)).grownBy W (some w.heap.size) → Ses.WS W b g big chunk out) := Lib.hid (fun W hW => (HWS.out.bl (below_alloc (Below.refl _ _) _)).grown hW (fun e => HNb.out (Option.some.inj e).symm) (fun e => HNg.out (Option.some.inj e).symm))
  have HCk : Hid (∀ (W W' : World) (g' o : Nat), Kd.C (Kd.int .u8) W (some ⟨w.heap.size, o, none⟩) p.length p → Ses.WStep W W' b g g' big chunk (out ++ [(k : Int)]) → Kd.C (Kd.int .u8) W' (some ⟨w.heap.size, o, none⟩) k p) := Lib.hid (fun W W' g' o hC hS => by
    have h := Ses.C_kp2 hC hS.kept (fun a e => by injection e with e; subst e; exact HNb.out) (fun a e => by injection e with e; subst e; exact HNg.out)
    rw [HK.out]
    exact h)
  rw [← HK.out]
  by_cases hz0 : k = 0
  · have hp0 : p = [] := List.eq_nil_of_length_eq_zero (HK.out.symm.trans hz0)
    subst hz0
    rw [Int.ofNat_zero] at HBy
    rw [hp0, List.append_nil]
    clear hp0
    have hsz : 0 < sz := by omega
    go_enter Tryd.func42, Tryd.ntmps42
    go_wp2_with (first | (go_at_call 60; (with_reducible refine (HPut.out _).mono ?_); rintro e w2 ⟨rfl, hrow, hgr⟩; have HRow := Lib.hid hrow; have HGr := Lib.hid hgr; clear hrow hgr) | (go_at_call 61; (with_reducible refine (HTr.out _ HRow.out).mono ?_); rintro e w3 ⟨o, c, rfl, hC, rfl⟩; have HCp := Lib.hid hC; clear hC; rw [HK.out.symm]) | (go_at_call 59; (with_reducible refine (HBy.out _ ?hws).mono ?_); (case hws => exact HW3.out _ HGr.out); rintro e w4 ⟨rfl, g4, hst⟩; have HSt := Lib.hid hst; clear hst))
    go_end0
    exact ⟨rfl, g4, HSt.out.prior (Ses.below_put HGr.out) htg⟩
  · have tz : ((k : Int) == 0) = false := beq_eq_false_iff_ne.2 (by omega)
    by_cases hgt : k < sz
    · go_enter Tryd.func42, Tryd.ntmps42
      go_wp2_with (first | (go_at_call 60; (with_reducible refine (HPut.out _).mono ?_); rintro e w2 ⟨rfl, hrow, hgr⟩; have HRow := Lib.hid hrow; have HGr := Lib.hid hgr; clear hrow hgr) | (go_at_call 61; (with_reducible refine (HTr.out _ HRow.out).mono ?_); rintro e w3 ⟨o, c, rfl, hC, rfl⟩; have HCp := Lib.hid hC; clear hC; rw [HK.out.symm]) | (go_at_call 59; (with_reducible refine (HBy.out _ ?hws).mono ?_); (case hws => exact HW3.out _ HGr.out); rintro e w4 ⟨rfl, g4, hst⟩; have HSt := Lib.hid hst; clear hst) | (go_at_call 58; (with_reducible refine (HWr.out _ g4 o c ?hws ?hC).mono ?_); (case hws => exact HSt.out.now); (case hC => exact HCk.out _ _ _ _ HCp.out HSt.out); rintro e w5 ⟨rfl, g5, hst⟩; have HSu := Lib.hid hst; clear hst))
      go_end0
      exact ⟨rfl, g5, (HSt.out.trans HSu.out).prior (Ses.below_put HGr.out) htg⟩
    · obtain rfl : sz = k := by omega
      go_enter Tryd.func42, Tryd.ntmps42
      go_wp2_with (first | (go_at_call 60; (with_reducible refine (HPut.out _).mono ?_); rintro e w2 ⟨rfl, hrow, hgr⟩; have HRow := Lib.hid hrow; have HGr := Lib.hid hgr; clear hrow hgr) | (go_at_call 61; (with_reducible refine (HTr.out _ HRow.out).mono ?_); rintro e w3 ⟨o, c, rfl, hC, rfl⟩; have HCp := Lib.hid hC; clear hC; rw [HK.out.symm]) | (go_at_call 59; (with_reducible refine (HBy.out _ ?hws).mono ?_); (case hws => exact HW3.out _ HGr.out); rintro e w4 ⟨rfl, g4, hst⟩; have HSt := Lib.hid hst; clear hst) | (go_at_call 58; (with_reducible refine (HWr.out _ g4 o c ?hws ?hC).mono ?_); (case hws => exact HSt.out.now); (case hC => exact HCk.out _ _ _ _ HCp.out HSt.out); rintro e w5 ⟨rfl, g5, hst⟩; have HSu := Lib.hid hst; clear hst))
      go_end0
      exact ⟨rfl, g5, (HSt.out.trans HSu.out).prior (Ses.below_put HGr.out) htg⟩
set_option maxHeartbeats 4000000 in
set_option maxRecDepth 100000 in
theorem putInt_packed_int (b g : Nat) (big : Bool) (chunk : Int) (out : List Int) (n sz : Nat) (be : Bool) (w : World) (h : Ses.WS w b g big chunk out) (hs1 : 1 ≤ sz) (hs2 : sz ≤ 8) (hn : (n : Int) < 256 ^ sz) (hn2 : (n : Int) < 9223372036854775808) (hlim : out.length + 9 ≤ 140737488355328) :
    Calls Tryd.prog 42 #[.pointer (some ⟨b, 0, none⟩), .iface 3 (.int .i64 n), .int .u8 sz, .bool be, .bool true] w (Ses.WP (.tuple #[]) b g big chunk (out ++ Dg.packed n) w) := by
  have hn8 : (n : Int) < 256 ^ 8 := by have e : (256 : Int) ^ 8 = 18446744073709551616 := by decide
                                       omega
  have hds := Dg.dgF_short 8 sz (n : Int) (by omega) hn
  have htr := Dg.trim_dg 8 (n : Int) (by omega) hn8
  have hpb : (Dg.dgF 8 (n : Int)).length ≤ 8 := Dg.dgF_len 8 n
  have htb := h.lt
  have htg := h.ltg
  have HMk := Ses.mk8i
  have HPut := Lib.hid (fun W : World => Ses.bePut8 W.heap.size 8 n Ses.zeros8b (W.alloc (.cells Ses.zeros8b 5)) (by omega) (xb_new W _) rfl)
  have HTr := Lib.hid (fun (W : World) (h : Ses.RowAt W w.heap.size (Dg.plainL 8 (n : Int)).reverse) => trimZeros_ok w.heap.size 8 (Dg.plainL 8 (n : Int)).reverse W (by rw [List.length_reverse, Dg.plainL_len]) (by omega) (by omega) h)
  rw [htr] at HTr
  have hpk : out ++ Dg.packed (n : Int) = (out ++ [((Dg.dgF 8 (n : Int)).length : Int)]) ++ (Dg.dgF 8 (n : Int)).reverse := by rw [List.append_assoc]; rfl
  rw [hpk]
  obtain ⟨p, hp⟩ : ∃ p, p = (Dg.dgF 8 (n : Int)).reverse := ⟨_, rfl⟩
  have hpl : (Dg.dgF 8 (n : Int)).length = p.length := by rw [hp, List.length_reverse]
  rw [← hp] at HTr ⊢
  rw [hpl] at hds hpb ⊢
  have HP := Lib.hid hp
  have HB1 := Lib.hid (fun W b h hz => Ses.ws_byte b g big chunk out 0 W h hz)
  clear htr hpk hp hpl hn hn8
  have HWS := Lib.hid h
  have pu : IntKind.u64.wrap (n : Int) = (n : Int) := by simp [IntKind.wrap, IntKind.bits, IntKind.signed]; omega
  have pi : IntKind.i64.wrap (n : Int) = (n : Int) := (IntKind.wrap_i64 _).trans (by omega)
  have tn : decide ((n : Int) < 0) = false := decide_eq_false (by omega)
  have HLim := Lib.hid hlim
  clear hn2
  have t0 := Ses.ta_int_int64; have t1 := Ses.ta_int_int32; have t2 := Ses.ta_int_int16; have t3 := Ses.ta_int_int8; have t4 := Ses.ta_int_uint64; have t5 := Ses.ta_int_uint32; have t6 := Ses.ta_int_uint16; have t7 := Ses.ta_int_uint8; have t8 := Ses.ta_int_uint; have t9 := Ses.ta_int_int
  obtain ⟨k, hk⟩ : ∃ k, k = p.length := ⟨_, rfl⟩
  have HK := Lib.hid hk
  have hk8 : k ≤ 8 := by omega
  have hks : k ≤ sz := by omega
  have hmod : (k : Int) % 256 = k := by omega
  clear h hk hds hpb hlim
  have HNb := Lib.hid (show ¬ w.heap.size = b by omega)
  have HNg := Lib.hid (show ¬ w.heap.size = g by omega)
  have HBy := Lib.hid (fun (W : World) (h : Ses.WS W b g big chunk out) => Ses.ws_byte b g big chunk out (k : Int) W h (by have := HLim.out; omega))
  have HWr := Lib.hid (fun (W : World) (g' o c : Nat) (h : Ses.WS W b g' big chunk (out ++ [(k : Int)])) (hC : Kd.C (Kd.int .u8) W (some ⟨w.heap.size, o, none⟩) p.length p) => Ses.ws_write b g' big chunk (out ++ [(k : Int)]) p (some ⟨w.heap.size, o, none⟩) c W h hC (fun a e => by injection e with e; subst e; exact HNb.out) (by have := HK.out; have := HLim.out; rw [List.length_append, List.length_singleton]; omega))
  rw [← HK.out] at HWr
  have HW3 : Hid (∀ W : World, (w.alloc (.cells Ses.zeros8b 5)).grownBy W (some w.heap.size) → Ses.WS W b g big chunk out) := Lib.hid (fun W hW => (HWS.out.bl (below_alloc (Below.refl _ _) _)).grown hW (fun e => HNb.out (Option.some.inj e).symm) (fun e => HNg.out (Option.some.inj e).symm))
  have HCk : Hid (∀ (W W' : World) (g' o : Nat), Kd.C (Kd.int .u8) W (some ⟨w.heap.size, o, none⟩) p.length p → Ses.WStep W W' b g g' big chunk (out ++ [(k : Int)]) → Kd.C (Kd.int .u8) W' (some ⟨w.heap.size, o, none⟩) k p) := Lib.hid (fun W W' g' o hC hS => by
    have h := Ses.C_kp2 hC hS.kept (fun a e => by injection e with e; subst e; exact HNb.out) (fun a e => by injection e with e; subst e; exact HNg.out)
    rw [HK.out]
    exact h)
  rw [← HK.out]
  by_cases hz0 : k = 0
  · have hp0 : p = [] := List.eq_nil_of_length_eq_zero (HK.out.symm.trans hz0)
    subst hz0
    rw [Int.ofNat_zero] at HBy
    rw [hp0, List.append_nil]
    clear hp0
    have hsz : 0 < sz := by omega
    go_enter Tryd.func42, Tryd.ntmps42
    go_wp2_with (first | (go_at_call 60; (with_reducible refine (HPut.out _).mono ?_); rintro e w2 ⟨rfl, hrow, hgr⟩; have HRow := Lib.hid hrow; have HGr := Lib.hid hgr; clear hrow hgr) | (go_at_call 61; (with_reducible refine (HTr.out _ HRow.out).mono ?_); rintro e w3 ⟨o, c, rfl, hC, rfl⟩; have HCp := Lib.hid hC; clear hC; rw [HK.out.symm]) | (go_at_call 59; (with_reducible refine (HBy.out _ ?hws).mono ?_); (case hws => exact HW3.out _ HGr.out); rintro e w4 ⟨rfl, g4, hst⟩; have HSt := Lib.hid hst; clear hst))
    go_end0
    exact ⟨rfl, g4, HSt.out.prior (Ses.below_put HGr.out) htg⟩
  · have tz : ((k : Int) == 0) = false := beq_eq_false_iff_ne.2 (by omega)
    by_cases hgt : k < sz
    · go_enter Tryd.func42, Tryd.ntmps42
      go_wp2_with (first | (go_at_call 60; (with_reducible refine (HPut.out _).mono ?_); rintro e w2 ⟨rfl, hrow, hgr⟩; have HRow := Lib.hid hrow; have HGr := Lib.hid hgr; clear hrow hgr) | (go_at_call 61; (with_reducible refine (HTr.out _ HRow.out).mono ?_); rintro e w3 ⟨o, c, rfl, hC, rfl⟩; have HCp := Lib.hid hC; clear hC; rw [HK.out.symm]) | (go_at_call 59; (with_reducible refine (HBy.out _ ?hws).mono ?_); (case hws => exact HW3.out _ HGr.out); rintro e w4 ⟨rfl, g4, hst⟩; have HSt := Lib.hid hst; clear hst) | (go_at_call 58; (with_reducible refine (HWr.out _ g4 o c ?hws ?hC).mono ?_); (case hws => exact HSt.out.now); (case hC => exact HCk.out _ _ _ _ HCp.out HSt.out); rintro e w5 ⟨rfl, g5, hst⟩; have HSu := Lib.hid hst; clear hst))
      go_end0
      exact ⟨rfl, g5, (HSt.out.trans HSu.out).prior (Ses.below_put HGr.out) htg⟩
    · obtain rfl : sz = k := by omega
      go_enter Tryd.func42, Tryd.ntmps42
      go_wp2_with (first | (go_at_call 60; (with_reducible refine (HPut.out _).mono ?_); rintro e w2 ⟨rfl, hrow, hgr⟩; have HRow := Lib.hid hrow; have HGr := Lib.hid hgr; clear hrow hgr) | (go_at_call 61; (with_reducible refine (HTr.out _ HRow.out).mono ?_); rintro e w3 ⟨o, c, rfl, hC, rfl⟩; have HCp := Lib.hid hC; clear hC; rw [HK.out.symm]) | (go_at_call 59; (with_reducible refine (HBy.out _ ?hws).mono ?_); (case hws => exact HW3.out _ HGr.out); rintro e w4 ⟨rfl, g4, hst⟩; have HSt := Lib.hid hst; clear hst) | (go_at_call 58; (with_reducible refine (HWr.out _ g4 o c ?hws ?hC).mono ?_); (case hws => exact HSt.out.now); (case hC => exact HCk.out _ _ _ _ HCp.out HSt.out); rintro e w5 ⟨rfl, g5, hst⟩; have HSu := Lib.hid hst; clear hst))
      go_end0
      exact ⟨rfl, g5, (HSt.out.trans HSu.out).prior (Ses.below_put HGr.out) htg⟩
set_option maxHeartbeats 4000000 in
set_option maxRecDepth 100000 in
theorem putInt_packed_u8 (b g : Nat) (big : Bool) (chunk : Int) (out : List Int) (n sz : Nat) (be : Bool) (w : World) (h : Ses.WS w b g big chunk out) (hs1 : 1 ≤ sz) (hs2 : sz ≤ 8) (hn : (n : Int) < 256 ^ sz) (hn2 : (n : Int) < 256) (hlim : out.length + 9 ≤ 140737488355328) :
    Calls Tryd.prog 42 #[.pointer (some ⟨b, 0, none⟩), .iface 5 (.int .u8 n), .int .u8 sz, .bool be, .bool true] w (Ses.WP (.tuple #[]) b g big chunk (out ++ Dg.packed n) w) := by
  have hn8 : (n : Int) < 256 ^ 8 := by have e : (256 : Int) ^ 8 = 18446744073709551616 := by decide
                                       omega
  have hds := Dg.dgF_short 8 sz (n : Int) (by omega) hn
  have htr := Dg.trim_dg 8 (n : Int) (by omega) hn8
  have hpb : (Dg.dgF 8 (n : Int)).length ≤ 8 := Dg.dgF_len 8 n
  have htb := h.lt
  have htg := h.ltg
  have HMk := Ses.mk8i
  have HPut := Lib.hid (fun W : World => Ses.bePut8 W.heap.size 8 n Ses.zeros8b (W.alloc (.cells Ses.zeros8b 5)) (by omega) (xb_new W _) rfl)
  have HTr := Lib.hid (fun (W : World) (h : Ses.RowAt W w.heap.size (Dg.plainL 8 (n : Int)).reverse) => trimZeros_ok w.heap.size 8 (Dg.plainL 8 (n : Int)).reverse W (by rw [List.length_reverse, Dg.plainL_len]) (by omega) (by omega) h)
  rw [htr] at HTr
  have hpk : out ++ Dg.packed (n : Int) = (out ++ [((Dg.dgF 8 (n : Int)).length : Int)]) ++ (Dg.dgF 8 (n : Int)).reverse := by rw [List.append_assoc]; rfl
  rw [hpk]
  obtain ⟨p, hp⟩ : ∃ p, p = (Dg.dgF 8 (n : Int)).reverse := ⟨_, rfl⟩
  have hpl : (Dg.dgF 8 (n : Int)).length = p.length := by rw [hp, List.length_reverse]
  rw [← hp] at HTr ⊢
  rw [hpl] at hds hpb ⊢
  have HP := Lib.hid hp
  have HB1 := Lib.hid (fun W b h hz => Ses.ws_byte b g big chunk out 0 W h hz)
  clear htr hpk hp hpl hn hn8
  have HWS := Lib.hid h
  have pu : IntKind.u64.wrap (n : Int) = (n : Int) := by simp [IntKind.wrap, IntKind.bits, IntKind.signed]; omega
  have pi : IntKind.i64.wrap (n : Int) = (n : Int) := (IntKind.wrap_i64 _).trans (by omega)
  have tn : decide ((n : Int) < 0) = false := decide_eq_false (by omega)
  have HLim := Lib.hid hlim
  clear hn2
  have t0 := Ses.ta_uint8_int64; have t1 := Ses.ta_uint8_int32; have t2 := Ses.ta_uint8_int16; have t3 := Ses.ta_uint8_int8; have t4 := Ses.ta_uint8_uint64; have t5 := Ses.ta_uint8_uint32; have t6 := Ses.ta_uint8_uint16; have t7 := Ses.ta_uint8_uint8
  obtain ⟨k, hk⟩ : ∃ k, k = p.length := ⟨_, rfl⟩
  have HK := Lib.hid hk
  have hk8 : k ≤ 8 := by omega
  have hks : k ≤ sz := by omega
  have hmod : (k : Int) % 256 = k := by omega
  clear h hk hds hpb hlim
  have HNb := Lib.hid (show ¬ w.heap.size = b by omega)
  have HNg := Lib.hid (show ¬ w.heap.size = g by omega)
  have HBy := Lib.hid (fun (W : World) (h : Ses.WS W b g big chunk out) => Ses.ws_byte b g big chunk out (k : Int) W h (by have := HLim.out; omega))
  have HWr := Lib.hid (fun (W : World) (g' o c : Nat) (h : Ses.WS W b g' big chunk (out ++ [(k : Int)])) (hC : Kd.C (Kd.int .u8) W (some ⟨w.heap.size, o, none⟩) p.length p) => Ses.ws_write b g' big chunk (out ++ [(k : Int)]) p (some ⟨w.heap.size, o, none⟩) c W h hC (fun a e => by injection e with e; subst e; exact HNb.out) (by have := HK.out; have := HLim.out; rw [List.length_append, List.length_singleton]; omega))
  rw [← HK.out] at HWr
  have HW3 : Hid (∀ W : World, (w.alloc (.cells Ses.zeros8b 5)).grownBy W (some w.heap.size) → Ses.WS W b g big chunk out) := Lib.hid (fun W hW => (HWS.out.bl (below_alloc (Below.refl _ _) _)).grown hW (fun e => HNb.out (Option.some.inj e).symm) (fun e => HNg.out (Option.some.inj e).symm))
  have HCk : Hid (∀ (W W' : World) (g' o : Nat), Kd.C (Kd.int .u8) W (some ⟨w.heap.size, o, none⟩) p.length p → Ses.WStep W W' b g g' big chunk (out ++ [(k : Int)]) → Kd.C (Kd.int .u8) W' (some ⟨w.heap.size, o, none⟩) k p) := Lib.hid (fun W W' g' o hC hS => by
    have h := Ses.C_kp2 hC hS.kept (fun a e => by injection e with e; subst e; exact HNb.out) (fun a e => by injection e with e; subst e; exact HNg.out)
    rw [HK.out]
    exact h)
  rw [← HK.out]
  by_cases hz0 : k = 0
  · have hp0 : p = [] := List.eq_nil_of_length_eq_zero (HK.out.symm.trans hz0)
    subst hz0
    rw [Int.ofNat_zero] at HBy
    rw [hp0, List.append_nil]
    clear hp0
    have hsz : 0 < sz := by omega
    go_enter Tryd.func42, Tryd.ntmps42
    go_wp2_with (first | (go_at_call 60; (with_reducible refine (HPut.out _).mono ?_); rintro e w2 ⟨rfl, hrow, hgr⟩; have HRow := Lib.hid hrow; have HGr := Lib.hid hgr; clear hrow hgr) | (go_at_call 61; (with_reducible refine (HTr.out _ HRow.out).mono ?_); rintro e w3 ⟨o, c, rfl, hC, rfl⟩; have HCp := Lib.hid hC; clear hC; rw [HK.out.symm]) | (go_at_call 59; (with_reducible refine (HBy.out _ ?hws).mono ?_); (case hws => exact HW3.out _ HGr.out); rintro e w4 ⟨rfl, g4, hst⟩; have HSt := Lib.hid hst; clear hst))
    go_end0
    exact ⟨rfl, g4, HSt.out.prior (Ses.below_put HGr.out) htg⟩
  · have tz : ((k : Int) == 0) = false := beq_eq_false_iff_ne.2 (by omega)
    by_cases hgt : k < sz
    · go_enter Tryd.func42, Tryd.ntmps42
      go_wp2_with (first | (go_at_call 60; (with_reducible refine (HPut.out _).mono ?_); rintro e w2 ⟨rfl, hrow, hgr⟩; have HRow := Lib.hid hrow; have HGr := Lib.hid hgr; clear hrow hgr) | (go_at_call 61; (with_reducible refine (HTr.out _ HRow.out).mono ?_); rintro e w3 ⟨o, c, rfl, hC, rfl⟩; have HCp := Lib.hid hC; clear hC; rw [HK.out.symm]) | (go_at_call 59; (with_reducible refine (HBy.out _ ?hws).mono ?_); (case hws => exact HW3.out _ HGr.out); rintro e w4 ⟨rfl, g4, hst⟩; have HSt := Lib.hid hst; clear hst) | (go_at_call 58; (with_reducible refine (HWr.out _ g4 o c ?hws ?hC).mono ?_); (case hws => exact HSt.out.now); (case hC => exact HCk.out _ _ _ _ HCp.out HSt.out); rintro e w5 ⟨rfl, g5, hst⟩; have HSu := Lib.hid hst; clear hst))
      go_end0
      exact ⟨rfl, g5, (HSt.out.trans HSu.out).prior (Ses.below_put HGr.out) htg⟩
    · obtain rfl : sz = k := by omega
      go_enter Tryd.func42, Tryd.ntmps42
      go_wp2_with (first | (go_at_call 60; (with_reducible refine (HPut.out _).mono ?_); rintro e w2 ⟨rfl, hrow, hgr⟩; have HRow := Lib.hid hrow; have HGr := Lib.hid hgr; clear hrow hgr) | (go_at_call 61; (with_reducible refine (HTr.out _ HRow.out).mono ?_); rintro e w3 ⟨o, c, rfl, hC, rfl⟩; have HCp := Lib.hid hC; clear hC; rw [HK.out.symm]) | (go_at_call 59; (with_reducible refine (HBy.out _ ?hws).mono ?_); (case hws => exact HW3.out _ HGr.out); rintro e w4 ⟨rfl, g4, hst⟩; have HSt := Lib.hid hst; clear hst) | (go_at_call 58; (with_reducible refine (HWr.out _ g4 o c ?hws ?hC).mono ?_); (case hws => exact HSt.out.now); (case hC => exact HCk.out _ _ _ _ HCp.out HSt.out); rintro e w5 ⟨rfl, g5, hst⟩; have HSu := Lib.hid hst; clear hst))
      go_end0
      exact ⟨rfl, g5, (HSt.out.trans HSu.out).prior (Ses.below_put HGr.out) htg⟩
set_option maxHeartbeats 4000000 in
set_option maxRecDepth 100000 in
theorem putUint_one (b g : Nat) (big : Bool) (chunk : Int) (out : List Int) (n : Nat) (be cp : Bool) (w : World) (h : Ses.WS w b g big chunk out) (hn : (n : Int) < 256) (hlim : out.length + 9 ≤ 140737488355328) :
    Calls Tryd.prog 43 #[.pointer (some ⟨b, 0, none⟩), .iface 27 (.int .u64 n), .int .u8 1, .bool be, .bool cp] w (Ses.WP (.tuple #[]) b g big chunk (out ++ [(n : Int)]) w) := by
  have HBy := Lib.hid (Ses.ws_byte b g big chunk out (n : Int) w h (by omega))
  have pw : IntKind.u8.wrap (n : Int) = (n : Int) := by simp [IntKind.wrap, IntKind.bits, IntKind.signed]; omega
  have t0 := Ses.ta_uint64_int64; have t1 := Ses.ta_uint64_int32; have t2 := Ses.ta_uint64_int16; have t3 := Ses.ta_uint64_int8; have t4 := Ses.ta_uint64_uint64
  clear h hn hlim
  go_enter Tryd.func43, Tryd.ntmps43
  go_wp2_with (go_at_call 59; (with_reducible refine HBy.out.mono ?_); rintro e w4 ⟨rfl, g4, hst⟩; have HSt := Lib.hid hst; clear hst)
  go_end0
  exact ⟨rfl, g4, HSt.out⟩
set_option maxHeartbeats 4000000 in
set_option maxRecDepth 100000 in
theorem putInt_one (b g : Nat) (big : Bool) (chunk : Int) (out : List Int) (n : Nat) (be cp : Bool) (w : World) (h : Ses.WS w b g big chunk out) (hn : (n : Int) < 256) (hlim : out.length + 9 ≤ 140737488355328) :
    Calls Tryd.prog 42 #[.pointer (some ⟨b, 0, none⟩), .iface 2 (.int .i64 n), .int .u8 1, .bool be, .bool false] w (Ses.WP (.tuple #[]) b g big chunk (out ++ [(n : Int)]) w) := by
  have HBy := Lib.hid (Ses.ws_byte b g big chunk out (n : Int) w h (by omega))
  have pw : IntKind.u8.wrap (n : Int) = (n : Int) := by simp [IntKind.wrap, IntKind.bits, IntKind.signed]; omega
  have pi : IntKind.i64.wrap (n : Int) = (n : Int) := (IntKind.wrap_i64 _).trans (by omega)
  have t0 := Ses.ta_int64_int64
  clear h hn hlim
  go_enter Tryd.func42, Tryd.ntmps42
  go_wp2_with (go_at_call 59; (with_reducible refine HBy.out.mono ?_); rintro e w4 ⟨rfl, g4, hst⟩; have HSt := Lib.hid hst; clear hst)
  go_end0
  exact ⟨rfl, g4, HSt.out⟩
set_option maxHeartbeats 4000000 in
set_option maxRecDepth 100000 in
theorem putUint_be2 (b g : Nat) (big : Bool) (chunk : Int) (out : List Int) (n : Nat) (w : World) (h : Ses.WS w b g big chunk out) (hn : (n : Int) < 65536) (hlim : out.length + 9 ≤ 140737488355328) :
    Calls Tryd.prog 43 #[.pointer (some ⟨b, 0, none⟩), .iface 27 (.int .u64 n), .int .u8 2, .bool true, .bool false] w (Ses.WP (.tuple #[]) b g big chunk (out ++ (Dg.plainL 2 (n : Int)).reverse) w) := by
  have htb := h.lt
  have htg := h.ltg
  have HMk := Ses.mk2
  have HPut := Lib.hid (fun W : World => Ses.bePut2 W.heap.size 2 n Ses.zeros2b (W.alloc (.cells Ses.zeros2b 5)) (by omega) (xb_new W _) rfl)
  have HWS := Lib.hid h
  have pu : IntKind.u64.wrap (n : Int) = (n : Int) := by simp [IntKind.wrap, IntKind.bits, IntKind.signed]; omega
  have pw : IntKind.u16.wrap (n : Int) = (n : Int) := by simp [IntKind.wrap, IntKind.bits, IntKind.signed]; omega
  have HLim := Lib.hid hlim
  have t0 := Ses.ta_uint64_int64; have t1 := Ses.ta_uint64_int32; have t2 := Ses.ta_uint64_int16; have t3 := Ses.ta_uint64_int8; have t4 := Ses.ta_uint64_uint64
  have hll : (Dg.plainL 2 (n : Int)).reverse.length = 2 := by first | rw [List.length_reverse, Dg.plainL_len] | rw [Dg.plainL_len]
  obtain ⟨l, hl⟩ : ∃ l, l = (Dg.plainL 2 (n : Int)).reverse := ⟨_, rfl⟩
  rw [← hl] at HPut hll ⊢
  have HLl := Lib.hid hll
  have HNb := Lib.hid (show ¬ w.heap.size = b by omega)
  have HNg := Lib.hid (show ¬ w.heap.size = g by omega)
  clear h hl hll hlim hn
  have HW3 : Hid (∀ W : World, (w.alloc (.cells Ses.zeros2b 5)).grownBy W (some w.heap.size) → Ses.WS W b g big chunk out) := Lib.hid (fun W hW => (HWS.out.bl (below_alloc (Below.refl _ _) _)).grown hW (fun e => HNb.out (Option.some.inj e).symm) (fun e => HNg.out (Option.some.inj e).symm))
  have HWr : Hid (∀ W : World, Ses.RowAt W w.heap.size l → Ses.WS W b g big chunk out → Calls Tryd.prog 58 #[.pointer (some ⟨b, 1, none⟩), .slice (some ⟨w.heap.size, 0, none⟩) 2 2] W (Ses.WP (.tuple #[.int .i64 2, .nilIface]) b g big chunk (out ++ l) W)) := Lib.hid (fun W hr h => by
    have hC := C_of (k := .u8) (w := W) (l := l) (g := w.heap.size) (o := 0) (by rw [HLl.out]; omega) (fun i hi => by rw [Nat.zero_add]; exact hr i hi)
    have hw := Ses.ws_write b g big chunk out l (some ⟨w.heap.size, 0, none⟩) 2 W h hC (fun a e => by injection e with e; subst e; exact HNb.out) (by rw [HLl.out]; have := HLim.out; omega)
    rw [HLl.out] at hw
    exact hw)
  go_enter Tryd.func43, Tryd.ntmps43
  go_wp2_with (first | (go_at_call 62; (with_reducible refine (HPut.out _).mono ?_); rintro e w2 ⟨rfl, hrow, hgr⟩; have HRow := Lib.hid hrow; have HGr := Lib.hid hgr; clear hrow hgr) | (go_at_call 58; (with_reducible refine (HWr.out _ HRow.out ?hws).mono ?_); (case hws => exact HW3.out _ HGr.out); rintro e w5 ⟨rfl, g5, hst⟩; have HSu := Lib.hid hst; clear hst))
  go_end0
  exact ⟨rfl, g5, HSu.out.prior (Ses.below_put HGr.out) htg⟩
set_option maxHeartbeats 4000000 in
set_option maxRecDepth 100000 in
theorem putUint_le2 (b g : Nat) (big : Bool) (chunk : Int) (out : List Int) (n : Nat) (w : World) (h : Ses.WS w b g big chunk out) (hn : (n : Int) < 65536) (hlim : out.length + 9 ≤ 140737488355328) :
    Calls Tryd.prog 43 #[.pointer (some ⟨b, 0, none⟩), .iface 27 (.int .u64 n), .int .u8 2, .bool false, .bool false] w (Ses.WP (.tuple #[]) b g big chunk (out ++ (Dg.plainL 2 (n : Int))) w) := by
  have htb := h.lt
  have htg := h.ltg
  have HMk := Ses.mk2
  have HPut := Lib.hid (fun W : World => Ses.lePut2 W.heap.size 2 n Ses.zeros2b (W.alloc (.cells Ses.zeros2b 5)) (by omega) (xb_new W _) rfl)
  have HWS := Lib.hid h
  have pu : IntKind.u64.wrap (n : Int) = (n : Int) := by simp [IntKind.wrap, IntKind.bits, IntKind.signed]; omega
  have pw : IntKind.u16.wrap (n : Int) = (n : Int) := by simp [IntKind.wrap, IntKind.bits, IntKind.signed]; omega
  have HLim := Lib.hid hlim
  have t0 := Ses.ta_uint64_int64; have t1 := Ses.ta_uint64_int32; have t2 := Ses.ta_uint64_int16; have t3 := Ses.ta_uint64_int8; have t4 := Ses.ta_uint64_uint64
  have hll : (Dg.plainL 2 (n : Int)).length = 2 := by first | rw [List.length_reverse, Dg.plainL_len] | rw [Dg.plainL_len]
  obtain ⟨l, hl⟩ : ∃ l, l = (Dg.plainL 2 (n : Int)) := ⟨_, rfl⟩
  rw [← hl] at HPut hll ⊢
  have HLl := Lib.hid hll
  have HNb := Lib.hid (show ¬ w.heap.size = b by omega)
  have HNg := Lib.hid (show ¬ w.heap.size = g by omega)
  clear h hl hll hlim hn
  have HW3 : Hid (∀ W : World, (w.alloc (.cells Ses.zeros2b 5)).grownBy W (some w.heap.size) → Ses.WS W b g big chunk out) := Lib.hid (fun W hW => (HWS.out.bl (below_alloc (Below.refl _ _) _)).grown hW (fun e => HNb.out (Option.some.inj e).symm) (fun e => HNg.out (Option.some.inj e).symm))
  have HWr : Hid (∀ W : World, Ses.RowAt W w.heap.size l → Ses.WS W b g big chunk out → Calls Tryd.prog 58 #[.pointer (some ⟨b, 1, none⟩), .slice (some ⟨w.heap.size, 0, none⟩) 2 2] W (Ses.WP (.tuple #[.int .i64 2, .nilIface]) b g big chunk (out ++ l) W)) := Lib.hid (fun W hr h => by
    have hC := C_of (k := .u8) (w := W) (l := l) (g := w.heap.size) (o := 0) (by rw [HLl.out]; omega) (fun i hi => by rw [Nat.zero_add]; exact hr i hi)
    have hw := Ses.ws_write b g big chunk out l (some ⟨w.heap.size, 0, none⟩) 2 W h hC (fun a e => by injection e with e; subst e; exact HNb.out) (by rw [HLl.out]; have := HLim.out; omega)
    rw [HLl.out] at hw
    exact hw)
  go_enter Tryd.func43, Tryd.ntmps43
  go_wp2_with (first | (go_at_call 64; (with_reducible refine (HPut.out _).mono ?_); rintro e w2 ⟨rfl, hrow, hgr⟩; have HRow := Lib.hid hrow; have HGr := Lib.hid hgr; clear hrow hgr) | (go_at_call 58; (with_reducible refine (HWr.out _ HRow.out ?hws).mono ?_); (case hws => exact HW3.out _ HGr.out); rintro e w5 ⟨rfl, g5, hst⟩; have HSu := Lib.hid hst; clear hst))
  go_end0
  exact ⟨rfl, g5, HSu.out.prior (Ses.below_put HGr.out) htg⟩
set_option maxHeartbeats 4000000 in
set_option maxRecDepth 100000 in
theorem putUint_be4 (b g : Nat) (big : Bool) (chunk : Int) (out : List Int) (n : Nat) (w : World) (h : Ses.WS w b g big chunk out) (hn : (n : Int) < 4294967296) (hlim : out.length + 9 ≤ 140737488355328) :
    Calls Tryd.prog 43 #[.pointer (some ⟨b, 0, none⟩), .iface 27 (.int .u64 n), .int .u8 4, .bool true, .bool false] w (Ses.WP (.tuple #[]) b g big chunk (out ++ (Dg.plainL 4 (n : Int)).reverse) w) := by
  have htb := h.lt
  have htg := h.ltg
  have HMk := Ses.mk4
  have HPut := Lib.hid (fun W : World => Ses.bePut4 W.heap.size 4 n Ses.zeros4b (W.alloc (.cells Ses.zeros4b 5)) (by omega) (xb_new W _) rfl)
  have HWS := Lib.hid h
  have pu : IntKind.u64.wrap (n : Int) = (n : Int) := by simp [IntKind.wrap, IntKind.bits, IntKind.signed]; omega
  have pw : IntKind.u32.wrap (n : Int) = (n : Int) := by simp [IntKind.wrap, IntKind.bits, IntKind.signed]; omega
  have HLim := Lib.hid hlim
  have t0 := Ses.ta_uint64_int64; have t1 := Ses.ta_uint64_int32; have t2 := Ses.ta_uint64_int16; have t3 := Ses.ta_uint64_int8; have t4 := Ses.ta_uint64_uint64
  have hll : (Dg.plainL 4 (n : Int)).reverse.length = 4 := by first | rw [List.length_reverse, Dg.plainL_len] | rw [Dg.plainL_len]
  obtain ⟨l, hl⟩ : ∃ l, l = (Dg.plainL 4 (n : Int)).reverse := ⟨_, rfl⟩
  rw [← hl] at HPut hll ⊢
  have HLl := Lib.hid hll
  have HNb := Lib.hid (show ¬ w.heap.size = b by omega)
  have HNg := Lib.hid (show ¬ w.heap.size = g by omega)
  clear h hl hll hlim hn
  have HW3 : Hid (∀ W : World, (w.alloc (.cells Ses.zeros4b 5)).grownBy W (some w.heap.size) → Ses.WS W b g big chunk out) := Lib.hid (fun W hW => (HWS.out.bl (below_alloc (Below.refl _ _) _)).grown hW (fun e => HNb.out (Option.some.inj e).symm) (fun e => HNg.out (Option.some.inj e).symm))
  have HWr : Hid (∀ W : World, Ses.RowAt W w.heap.size l → Ses.WS W b g big chunk out → Calls Tryd.prog 58 #[.pointer (some ⟨b, 1, none⟩), .slice (some ⟨w.heap.size, 0, none⟩) 4 4] W (Ses.WP (.tuple #[.int .i64 4, .nilIface]) b g big chunk (out ++ l) W)) := Lib.hid (fun W hr h => by
    have hC := C_of (k := .u8) (w := W) (l := l) (g := w.heap.size) (o := 0) (by rw [HLl.out]; omega) (fun i hi => by rw [Nat.zero_add]; exact hr i hi)
    have hw := Ses.ws_write b g big chunk out l (some ⟨w.heap.size, 0, none⟩) 4 W h hC (fun a e => by injection e with e; subst e; exact HNb.out) (by rw [HLl.out]; have := HLim.out; omega)
    rw [HLl.out] at hw
    exact hw)
  go_enter Tryd.func43, Tryd.ntmps43
  go_wp2_with (first | (go_at_call 63; (with_reducible refine (HPut.out _).mono ?_); rintro e w2 ⟨rfl, hrow, hgr⟩; have HRow := Lib.hid hrow; have HGr := Lib.hid hgr; clear hrow hgr) | (go_at_call 58; (with_reducible refine (HWr.out _ HRow.out ?hws).mono ?_); (case hws => exact HW3.out _ HGr.out); rintro e w5 ⟨rfl, g5, hst⟩; have HSu := Lib.hid hst; clear hst))
  go_end0
  exact ⟨rfl, g5, HSu.out.prior (Ses.below_put HGr.out) htg⟩
set_option maxHeartbeats 4000000 in
set_option maxRecDepth 100000 in
theorem putUint_le4 (b g : Nat) (big : Bool) (chunk : Int) (out : List Int) (n : Nat) (w : World) (h : Ses.WS w b g big chunk out) (hn : (n : Int) < 4294967296) (hlim : out.length + 9 ≤ 140737488355328) :
    Calls Tryd.prog 43 #[.pointer (some ⟨b, 0, none⟩), .iface 27 (.int .u64 n), .int .u8 4, .bool false, .bool false] w (Ses.WP (.tuple #[]) b g big chunk (out ++ (Dg.plainL 4 (n : Int))) w) := by
  have htb := h.lt
  have htg := h.ltg
  have HMk := Ses.mk4
  have HPut := Lib.hid (fun W : World => Ses.lePut4 W.heap.size 4 n Ses.zeros4b (W.alloc (.cells Ses.zeros4b 5)) (by omega) (xb_new W _) rfl)
  have HWS := Lib.hid h
  have pu : IntKind.u64.wrap (n : Int) = (n : Int) := by simp [IntKind.wrap, IntKind.bits, IntKind.signed]; omega
  have pw : IntKind.u32.wrap (n : Int) = (n : Int) := by simp [IntKind.wrap, IntKind.bits, IntKind.signed]; omega
  have HLim := Lib.hid hlim
  have t0 := Ses.ta_uint64_int64; have t1 := Ses.ta_uint64_int32; have t2 := Ses.ta_uint64_int16; have t3 := Ses.ta_uint64_int8; have t4 := Ses.ta_uint64_uint64
  have hll : (Dg.plainL 4 (n : Int)).length = 4 := by first | rw [List.length_reverse, Dg.plainL_len] | rw [Dg.plainL_len]
  obtain ⟨l, hl⟩ : ∃ l, l = (Dg.plainL 4 (n : Int)) := ⟨_, rfl⟩
  rw [← hl] at HPut hll ⊢
  have HLl := Lib.hid hll
  have HNb := Lib.hid (show ¬ w.heap.size = b by omega)
  have HNg := Lib.hid (show ¬ w.heap.size = g by omega)
  clear h hl hll hlim hn
  have HW3 : Hid (∀ W : World, (w.alloc (.cells Ses.zeros4b 5)).grownBy W (some w.heap.size) → Ses.WS W b g big chunk out) := Lib.hid (fun W hW => (HWS.out.bl (below_alloc (Below.refl _ _) _)).grown hW (fun e => HNb.out (Option.some.inj e).symm) (fun e => HNg.out (Option.some.inj e).symm))
  have HWr : Hid (∀ W : World, Ses.RowAt W w.heap.size l → Ses.WS W b g big chunk out → Calls Tryd.prog 58 #[.pointer (some ⟨b, 1, none⟩), .slice (some ⟨w.heap.size, 0, none⟩) 4 4] W (Ses.WP (.tuple #[.int .i64 4, .nilIface]) b g big chunk (out ++ l) W)) := Lib.hid (fun W hr h => by
    have hC := C_of (k := .u8) (w := W) (l := l) (g := w.heap.size) (o := 0) (by rw [HLl.out]; omega) (fun i hi => by rw [Nat.zero_add]; exact hr i hi)
    have hw := Ses.ws_write b g big chunk out l (some ⟨w.heap.size, 0, none⟩) 4 W h hC (fun a e => by injection e with e; subst e; exact HNb.out) (by rw [HLl.out]; have := HLim.out; omega)
    rw [HLl.out] at hw
    exact hw)
  go_enter Tryd.func43, Tryd.ntmps43
  go_wp2_with (first | (go_at_call 65; (with_reducible refine (HPut.out _).mono ?_); rintro e w2 ⟨rfl, hrow, hgr⟩; have HRow := Lib.hid hrow; have HGr := Lib.hid hgr; clear hrow hgr) | (go_at_call 58; (with_reducible refine (HWr.out _ HRow.out ?hws).mono ?_); (case hws => exact HW3.out _ HGr.out); rintro e w5 ⟨rfl, g5, hst⟩; have HSu := Lib.hid hst; clear hst))
  go_end0
  exact ⟨rfl, g5, HSu.out.prior (Ses.below_put HGr.out) htg⟩
set_option maxHeartbeats 4000000 in
set_option maxRecDepth 100000 in
theorem putUint_be8 (b g : Nat) (big : Bool) (chunk : Int) (out : List Int) (n : Nat) (w : World) (h : Ses.WS w b g big chunk out) (hn : (n : Int) < 18446744073709551616) (hlim : out.length + 9 ≤ 140737488355328) :
    Calls Tryd.prog 43 #[.pointer (some ⟨b, 0, none⟩), .iface 27 (.int .u64 n), .int .u8 8, .bool true, .bool false] w (Ses.WP (.tuple #[]) b g big chunk (out ++ (Dg.plainL 8 (n : Int)).reverse) w) := by
  have htb := h.lt
  have htg := h.ltg
  have HMk := Ses.mk8
  have HPut := Lib.hid (fun W : World => Ses.bePut8 W.heap.size 8 n Ses.zeros8b (W.alloc (.cells Ses.zeros8b 5)) (by omega) (xb_new W _) rfl)
  have HWS := Lib.hid h
  have pu : IntKind.u64.wrap (n : Int) = (n : Int) := by simp [IntKind.wrap, IntKind.bits, IntKind.signed]; omega
  have HLim := Lib.hid hlim
  have t0 := Ses.ta_uint64_int64; have t1 := Ses.ta_uint64_int32; have t2 := Ses.ta_uint64_int16; have t3 := Ses.ta_uint64_int8; have t4 := Ses.ta_uint64_uint64
  have hll : (Dg.plainL 8 (n : Int)).reverse.length = 8 := by first | rw [List.length_reverse, Dg.plainL_len] | rw [Dg.plainL_len]
  obtain ⟨l, hl⟩ : ∃ l, l = (Dg.plainL 8 (n : Int)).reverse := ⟨_, rfl⟩
  rw [← hl] at HPut hll ⊢
  have HLl := Lib.hid hll
  have HNb := Lib.hid (show ¬ w.heap.size = b by omega)
  have HNg := Lib.hid (show ¬ w.heap.size = g by omega)
  clear h hl hll hlim hn
  have HW3 : Hid (∀ W : World, (w.alloc (.cells Ses.zeros8b 5)).grownBy W (some w.heap.size) → Ses.WS W b g big chunk out) := Lib.hid (fun W hW => (HWS.out.bl (below_alloc (Below.refl _ _) _)).grown hW (fun e => HNb.out (Option.some.inj e).symm) (fun e => HNg.out (Option.some.inj e).symm))
  have HWr : Hid (∀ W : World, Ses.RowAt W w.heap.size l → Ses.WS W b g big chunk out → Calls Tryd.prog 58 #[.pointer (some ⟨b, 1, none⟩), .slice (some ⟨w.heap.size, 0, none⟩) 8 8] W (Ses.WP (.tuple #[.int .i64 8, .nilIface]) b g big chunk (out ++ l) W)) := Lib.hid (fun W hr h => by
    have hC := C_of (k := .u8) (w := W) (l := l) (g := w.heap.size) (o := 0) (by rw [HLl.out]; omega) (fun i hi => by rw [Nat.zero_add]; exact hr i hi)
    have hw := Ses.ws_write b g big chunk out l (some ⟨w.heap.size, 0, none⟩) 8 W h hC (fun a e => by injection e with e; subst e; exact HNb.out) (by rw [HLl.out]; have := HLim.out; omega)
    rw [HLl.out] at hw
    exact hw)
  go_enter Tryd.func43, Tryd.ntmps43
  go_wp2_with (first | (go_at_call 60; (with_reducible refine (HPut.out _).mono ?_); rintro e w2 ⟨rfl, hrow, hgr⟩; have HRow := Lib.hid hrow; have HGr := Lib.hid hgr; clear hrow hgr) | (go_at_call 58; (with_reducible refine (HWr.out _ HRow.out ?hws).mono ?_); (case hws => exact HW3.out _ HGr.out); rintro e w5 ⟨rfl, g5, hst⟩; have HSu := Lib.hid hst; clear hst))
  go_end0
  exact ⟨rfl, g5, HSu.out.prior (Ses.below_put HGr.out) htg⟩
set_option maxHeartbeats 4000000 in
set_option maxRecDepth 100000 in
theorem putUint_le8 (b g : Nat) (big : Bool) (chunk : Int) (out : List Int) (n : Nat) (w : World) (h : Ses.WS w b g big chunk out) (hn : (n : Int) < 18446744073709551616) (hlim : out.length + 9 ≤ 140737488355328) :
    Calls Tryd.prog 43 #[.pointer (some ⟨b, 0, none⟩), .iface 27 (.int .u64 n), .int .u8 8, .bool false, .bool false] w (Ses.WP (.tuple #[]) b g big chunk (out ++ (Dg.plainL 8 (n : Int))) w) := by
  have htb := h.lt
  have htg := h.ltg
  have HMk := Ses.mk8
  have HPut := Lib.hid (fun W : World => Ses.lePut8 W.heap.size 8 n Ses.zeros8b (W.alloc (.cells Ses.zeros8b 5)) (by omega) (xb_new W _) rfl)
  have HWS := Lib.hid h
  have pu : IntKind.u64.wrap (n : Int) = (n : Int) := by simp [IntKind.wrap, IntKind.bits, IntKind.signed]; omega
  have HLim := Lib.hid hlim
  have t0 := Ses.ta_uint64_int64; have t1 := Ses.ta_uint64_int32; have t2 := Ses.ta_uint64_int16; have t3 := Ses.ta_uint64_int8; have t4 := Ses.ta_uint64_uint64
  have hll : (Dg.plainL 8 (n : Int)).length = 8 := by first | rw [List.length_reverse, Dg.plainL_len] | rw [Dg.plainL_len]
  obtain ⟨l, hl⟩ : ∃ l, l = (Dg.plainL 8 (n : Int)) := ⟨_, rfl⟩
  rw [← hl] at HPut hll ⊢
  have HLl := Lib.hid hll
  have HNb := Lib.hid (show ¬ w.heap.size = b by omega)
  have HNg := Lib.hid (show ¬ w.heap.size = g by omega)
  clear h hl hll hlim hn
  have HW3 : Hid (∀ W : World, (w.alloc (.cells Ses.zeros8b 5)).grownBy W (some w.heap.size) → Ses.WS W b g big chunk out) := Lib.hid (fun W hW => (HWS.out.bl (below_alloc (Below.refl _ _) _)).grown hW (fun e => HNb.out (Option.some.inj e).symm) (fun e => HNg.out (Option.some.inj e).symm))
  have HWr : Hid (∀ W : World, Ses.RowAt W w.heap.size l → Ses.WS W b g big chunk out → Calls Tryd.prog 58 #[.pointer (some ⟨b, 1, none⟩), .slice (some ⟨w.heap.size, 0, none⟩) 8 8] W (Ses.WP (.tuple #[.int .i64 8, .nilIface]) b g big chunk (out ++ l) W)) := Lib.hid (fun W hr h => by
    have hC := C_of (k := .u8) (w := W) (l := l) (g := w.heap.size) (o := 0) (by rw [HLl.out]; omega) (fun i hi => by rw [Nat.zero_add]; exact hr i hi)
    have hw := Ses.ws_write b g big chunk out l (some ⟨w.heap.size, 0, none⟩) 8 W h hC (fun a e => by injection e with e; subst e; exact HNb.out) (by rw [HLl.out]; have := HLim.out; omega)
    rw [HLl.out] at hw
    exact hw)
  go_enter Tryd.func43, Tryd.ntmps43
  go_wp2_with (first | (go_at_call 66; (with_reducible refine (HPut.out _).mono ?_); rintro e w2 ⟨rfl, hrow, hgr⟩; have HRow := Lib.hid hrow; have HGr := Lib.hid hgr; clear hrow hgr) | (go_at_call 58; (with_reducible refine (HWr.out _ HRow.out ?hws).mono ?_); (case hws => exact HW3.out _ HGr.out); rintro e w5 ⟨rfl, g5, hst⟩; have HSu := Lib.hid hst; clear hst))
  go_end0
  exact ⟨rfl, g5, HSu.out.prior (Ses.below_put HGr.out) htg⟩
set_option maxHeartbeats 4000000 in
set_option maxRecDepth 100000 in
theorem putInt_be2 (b g : Nat) (big : Bool) (chunk : Int) (out : List Int) (n : Nat) (w : World) (h : Ses.WS w b g big chunk out) (hn : (n : Int) < 65536) (hlim : out.length + 9 ≤ 140737488355328) :
    Calls Tryd.prog 42 #[.pointer (some ⟨b, 0, none⟩), .iface 2 (.int .i64 n), .int .u8 2, .bool true, .bool false] w (Ses.WP (.tuple #[]) b g big chunk (out ++ (Dg.plainL 2 (n : Int)).reverse) w) := by
  have htb := h.lt
  have htg := h.ltg
  have HMk := Ses.mk2
  have HPut := Lib.hid (fun W : World => Ses.bePut2 W.heap.size 2 n Ses.zeros2b (W.alloc (.cells Ses.zeros2b 5)) (by omega) (xb_new W _) rfl)
  have HWS := Lib.hid h
  have pu : IntKind.u64.wrap (n : Int) = (n : Int) := by simp [IntKind.wrap, IntKind.bits, IntKind.signed]; omega
  have pi : IntKind.i64.wrap (n : Int) = (n : Int) := (IntKind.wrap_i64 _).trans (by omega)
  have pw : IntKind.u16.wrap (n : Int) = (n : Int) := by simp [IntKind.wrap, IntKind.bits, IntKind.signed]; omega
  have HLim := Lib.hid hlim
  have t0 := Ses.ta_int64_int64
  have hll : (Dg.plainL 2 (n : Int)).reverse.length = 2 := by first | rw [List.length_reverse, Dg.plainL_len] | rw [Dg.plainL_len]
  obtain ⟨l, hl⟩ : ∃ l, l = (Dg.plainL 2 (n : Int)).reverse := ⟨_, rfl⟩
  rw [← hl] at HPut hll ⊢
  have HLl := Lib.hid hll
  have HNb := Lib.hid (show ¬ w.heap.size = b by omega)
  have HNg := Lib.hid (show ¬ w.heap.size = g by omega)
  clear h hl hll hlim hn
  have HW3 : Hid (∀ W : World, (w.alloc (.cells Ses.zeros2b 5)).grownBy W (some w.heap.size) → Ses.WS W b g big chunk out) := Lib.hid (fun W hW => (HWS.out.bl (below_alloc (Below.refl _ _) _)).grown hW (fun e => HNb.out (Option.some.inj e).symm) (fun e => HNg.out (Option.some.inj e).symm))
  have HWr : Hid (∀ W : World, Ses.RowAt W w.heap.size l → Ses.WS W b g big chunk out → Calls Tryd.prog 58 #[.pointer (some ⟨b, 1, none⟩), .slice (some ⟨w.heap.size, 0, none⟩) 2 2] W (Ses.WP (.tuple #[.int .i64 2, .nilIface]) b g big chunk (out ++ l) W)) := Lib.hid (fun W hr h => by
    have hC := C_of (k := .u8) (w := W) (l := l) (g := w.heap.size) (o := 0) (by rw [HLl.out]; omega) (fun i hi => by rw [Nat.zero_add]; exact hr i hi)
    have hw := Ses.ws_write b g big chunk out l (some ⟨w.heap.size, 0, none⟩) 2 W h hC (fun a e => by injection e with e; subst e; exact HNb.out) (by rw [HLl.out]; have := HLim.out; omega)
    rw [HLl.out] at hw
    exact hw)
  go_enter Tryd.func42, Tryd.ntmps42
  go_wp2_with (first | (go_at_call 62; (with_reducible refine (HPut.out _).mono ?_); rintro e w2 ⟨rfl, hrow, hgr⟩; have HRow := Lib.hid hrow; have HGr := Lib.hid hgr; clear hrow hgr) | (go_at_call 58; (with_reducible refine (HWr.out _ HRow.out ?hws).mono ?_); (case hws => exact HW3.out _ HGr.out); rintro e w5 ⟨rfl, g5, hst⟩; have HSu := Lib.hid hst; clear hst))
  go_end0
  exact ⟨rfl, g5, HSu.out.prior (Ses.below_put HGr.out) htg⟩
set_option maxHeartbeats 4000000 in
set_option maxRecDepth 100000 in
theorem putInt_le2 (b g : Nat) (big : Bool) (chunk : Int) (out : List Int) (n : Nat) (w : World) (h : Ses.WS w b g big chunk out) (hn : (n : Int) < 65536) (hlim : out.length + 9 ≤ 140737488355328) :
    Calls Tryd.prog 42 #[.pointer (some ⟨b, 0, none⟩), .iface 2 (.int .i64 n), .int .u8 2, .bool false, .bool false] w (Ses.WP (.tuple #[]) b g big chunk (out ++ (Dg.plainL 2 (n : Int))) w) := by
  have htb := h.lt
  have htg := h.ltg
  have HMk := Ses.mk2
  have HPut := Lib.hid (fun W : World => Ses.lePut2 W.heap.size 2 n Ses.zeros2b (W.alloc (.cells Ses.zeros2b 5)) (by omega) (xb_new W _) rfl)
  have HWS := Lib.hid h
  have pu : IntKind.u64.wrap (n : Int) = (n : Int) := by simp [IntKind.wrap, IntKind.bits, IntKind.signed]; omega
  have pi : IntKind.i64.wrap (n : Int) = (n : Int) := (IntKind.wrap_i64 _).trans (by omega)
  have pw : IntKind.u16.wrap (n : Int) = (n : Int) := by simp [IntKind.wrap, IntKind.bits, IntKind.signed]; omega
  have HLim := Lib.hid hlim
  have t0 := Ses.ta_int64_int64
  have hll : (Dg.plainL 2 (n : Int)).length = 2 := by first | rw [List.length_reverse, Dg.plainL_len] | rw [Dg.plainL_len]
  obtain ⟨l, hl⟩ : ∃ l, l = (Dg.plainL 2 (n : Int)) := ⟨_, rfl⟩
  rw [← hl] at HPut hll ⊢
  have HLl := Lib.hid hll
  have HNb := Lib.hid (show ¬ w.heap.size = b by omega)
  have HNg := Lib.hid (show ¬ w.heap.size = g by omega)
  clear h hl hll hlim hn
  have HW3 : Hid (∀ W : World, (w.alloc (.cells Ses.zeros2b 5)).grownBy W (some w.heap.size) → Ses.WS W b g big chunk out) := Lib.hid (fun W hW => (HWS.out.bl (below_alloc (Below.refl _ _) _)).grown hW (fun e => HNb.out (Option.some.inj e).symm) (fun e => HNg.out (Option.some.inj e).symm))
  have HWr : Hid (∀ W : World, Ses.RowAt W w.heap.size l → Ses.WS W b g big chunk out → Calls Tryd.prog 58 #[.pointer (some ⟨b, 1, none⟩), .slice (some ⟨w.heap.size, 0, none⟩) 2 2] W (Ses.WP (.tuple #[.int .i64 2, .nilIface]) b g big chunk (out ++ l) W)) := Lib.hid (fun W hr h => by
    have hC := C_of (k := .u8) (w := W) (l := l) (g := w.heap.size) (o := 0) (by rw [HLl.out]; omega) (fun i hi => by rw [Nat.zero_add]; exact hr i hi)
    have hw := Ses.ws_write b g big chunk out l (some ⟨w.heap.size, 0, none⟩) 2 W h hC (fun a e => by injection e with e; subst e; exact HNb.out) (by rw [HLl.out]; have := HLim.out; omega)
    rw [HLl.out] at hw
    exact hw)
  go_enter Tryd.func42, Tryd.ntmps42
  go_wp2_with (first | (go_at_call 64; (with_reducible refine (HPut.out _).mono ?_); rintro e w2 ⟨rfl, hrow, hgr⟩; have HRow := Lib.hid hrow; have HGr := Lib.hid hgr; clear hrow hgr) | (go_at_call 58; (with_reducible refine (HWr.out _ HRow.out ?hws).mono ?_); (case hws => exact HW3.out _ HGr.out); rintro e w5 ⟨rfl, g5, hst⟩; have HSu := Lib.hid hst; clear hst))
  go_end0
  exact ⟨rfl, g5, HSu.out.prior (Ses.below_put HGr.out) htg⟩
set_option maxHeartbeats 4000000 in
set_option maxRecDepth 100000 in
theorem putInt_be4 (b g : Nat) (big : Bool) (chunk : Int) (out : List Int) (n : Nat) (w : World) (h : Ses.WS w b g big chunk out) (hn : (n : Int) < 4294967296) (hlim : out.length + 9 ≤ 140737488355328) :
    Calls Tryd.prog 42 #[.pointer (some ⟨b, 0, none⟩), .iface 2 (.int .i64 n), .int .u8 4, .bool true, .bool false] w (Ses.WP (.tuple #[]) b g big chunk (out ++ (Dg.plainL 4 (n : Int)).reverse) w) := by
  have htb := h.lt
  have htg := h.ltg
  have HMk := Ses.mk4
  have HPut := Lib.hid (fun W : World => Ses.bePut4 W.heap.size 4 n Ses.zeros4b (W.alloc (.cells Ses.zeros4b 5)) (by omega) (xb_new W _) rfl)
  have HWS := Lib.hid h
  have pu : IntKind.u64.wrap (n : Int) = (n : Int) := by simp [IntKind.wrap, IntKind.bits, IntKind.signed]; omega
  have pi : IntKind.i64.wrap (n : Int) = (n : Int) := (IntKind.wrap_i64 _).trans (by omega)
  have pw : IntKind.u32.wrap (n : Int) = (n : Int) := by simp [IntKind.wrap, IntKind.bits, IntKind.signed]; omega
  have HLim := Lib.hid hlim
  have t0 := Ses.ta_int64_int64
  have hll : (Dg.plainL 4 (n : Int)).reverse.length = 4 := by first | rw [List.length_reverse, Dg.plainL_len] | rw [Dg.plainL_len]
  obtain ⟨l, hl⟩ : ∃ l, l = (Dg.plainL 4 (n : Int)).reverse := ⟨_, rfl⟩
  rw [← hl] at HPut hll ⊢
  have HLl := Lib.hid hll
  have HNb := Lib.hid (show ¬ w.heap.size = b by omega)
  have HNg := Lib.hid (show ¬ w.heap.size = g by omega)
  clear h hl hll hlim hn
  have HW3 : Hid (∀ W : World, (w.alloc (.cells Ses.zeros4b 5)).grownBy W (some w.heap.size) → Ses.WS W b g big chunk out) := Lib.hid (fun W hW => (HWS.out.bl (below_alloc (Below.refl _ _) _)).grown hW (fun e => HNb.out (Option.some.inj e).symm) (fun e => HNg.out (Option.some.inj e).symm))
  have HWr : Hid (∀ W : World, Ses.RowAt W w.heap.size l → Ses.WS W b g big chunk out → Calls Tryd.prog 58 #[.pointer (some ⟨b, 1, none⟩), .slice (some ⟨w.heap.size, 0, none⟩) 4 4] W (Ses.WP (.tuple #[.int .i64 4, .nilIface]) b g big chunk (out ++ l) W)) := Lib.hid (fun W hr h => by
    have hC := C_of (k := .u8) (w := W) (l := l) (g := w.heap.size) (o := 0) (by rw [HLl.out]; omega) (fun i hi => by rw [Nat.zero_add]; exact hr i hi)
    have hw := Ses.ws_write b g big chunk out l (some ⟨w.heap.size, 0, none⟩) 4 W h hC (fun a e => by injection e with e; subst e; exact HNb.out) (by rw [HLl.out]; have := HLim.out; omega)
    rw [HLl.out] at hw
    exact hw)
  go_enter Tryd.func42, Tryd.ntmps42
  go_wp2_with (first | (go_at_call 63; (with_reducible refine (HPut.out _).mono ?_); rintro e w2 ⟨rfl, hrow, hgr⟩; have HRow := Lib.hid hrow; have HGr := Lib.hid hgr; clear hrow hgr) | (go_at_call 58; (with_reducible refine (HWr.out _ HRow.out ?hws).mono ?_); (case hws => exact HW3.out _ HGr.out); rintro e w5 ⟨rfl, g5, hst⟩; have HSu := Lib.hid hst; clear hst))
  go_end0
  exact ⟨rfl, g5, HSu.out.prior (Ses.below_put HGr.out) htg⟩
set_option maxHeartbeats 4000000 in
set_option maxRecDepth 100000 in
theorem putInt_le4 (b g : Nat) (big : Bool) (chunk : Int) (out : List Int) (n : Nat) (w : World) (h : Ses.WS w b g big chunk out) (hn : (n : Int) < 4294967296) (hlim : out.length + 9 ≤ 140737488355328) :
    Calls Tryd.prog 42 #[.pointer (some ⟨b, 0, none⟩), .iface 2 (.int .i64 n), .int .u8 4, .bool false, .bool false] w (Ses.WP (.tuple #[]) b g big chunk (out ++ (Dg.plainL 4 (n : Int))) w) := by
  have htb := h.lt
  have htg := h.ltg
  have HMk := Ses.mk4
  have HPut := Lib.hid (fun W : World => Ses.lePut4 W.heap.size 4 n Ses.zeros4b (W.alloc (.cells Ses.zeros4b 5)) (by omega) (xb_new W _) rfl)
  have HWS := Lib.hid h
  have pu : IntKind.u64.wrap (n : Int) = (n : Int) := by simp [IntKind.wrap, IntKind.bits, IntKind.signed]; omega
  have pi : IntKind.i64.wrap (n : Int) = (n : Int) := (IntKind.wrap_i64 _).trans (by omega)
  have pw : IntKind.u32.wrap (n : Int) = (n : Int) := by simp [IntKind.wrap, IntKind.bits, IntKind.signed]; omega
  have HLim := Lib.hid hlim
  have t0 := Ses.ta_int64_int64
  have hll : (Dg.plainL 4 (n : Int)).length = 4 := by first | rw [List.length_reverse, Dg.plainL_len] | rw [Dg.plainL_len]
  obtain ⟨l, hl⟩ : ∃ l, l = (Dg.plainL 4 (n : Int)) := ⟨_, rfl⟩
  rw [← hl] at HPut hll ⊢
  have HLl := Lib.hid hll
  have HNb := Lib.hid (show ¬ w.heap.size = b by omega)
  have HNg := Lib.hid (show ¬ w.heap.size = g by omega)
  clear h hl hll hlim hn
  have HW3 : Hid (∀ W : World, (w.alloc (.cells Ses.zeros4b 5)).grownBy W (some w.heap.size) → Ses.WS W b g big chunk out) := Lib.hid (fun W hW => (HWS.out.bl (below_alloc (Below.refl _ _) _)).grown hW (fun e => HNb.out (Option.some.inj e).symm) (fun e => HNg.out (Option.some.inj e).symm))
  have HWr : Hid (∀ W : World, Ses.RowAt W w.heap.size l → Ses.WS W b g big chunk out → Calls Tryd.prog 58 #[.pointer (some ⟨b, 1, none⟩), .slice (some ⟨w.heap.size, 0, none⟩) 4 4] W (Ses.WP (.tuple #[.int .i64 4, .nilIface]) b g big chunk (out ++ l) W)) := Lib.hid (fun W hr h => by
    have hC := C_of (k := .u8) (w := W) (l := l) (g := w.heap.size) (o := 0) (by rw [HLl.out]; omega) (fun i hi => by rw [Nat.zero_add]; exact hr i hi)
    have hw := Ses.ws_write b g big chunk out l (some ⟨w.heap.size, 0, none⟩) 4 W h hC (fun a e => by injection e with e; subst e; exact HNb.out) (by rw [HLl.out]; have := HLim.out; omega)
    rw [HLl.out] at hw
    exact hw)
  go_enter Tryd.func42, Tryd.ntmps42
  go_wp2_with (first | (go_at_call 65; (with_reducible refine (HPut.out _).mono ?_); rintro e w2 ⟨rfl, hrow, hgr⟩; have HRow := Lib.hid hrow; have HGr := Lib.hid hgr; clear hrow hgr) | (go_at_call 58; (with_reducible refine (HWr.out _ HRow.out ?hws).mono ?_); (case hws => exact HW3.out _ HGr.out); rintro e w5 ⟨rfl, g5, hst⟩; have HSu := Lib.hid hst; clear hst))
  go_end0
  exact ⟨rfl, g5, HSu.out.prior (Ses.below_put HGr.out) htg⟩
set_option maxHeartbeats 4000000 in
set_option maxRecDepth 100000 in
theorem putInt_be8 (b g : Nat) (big : Bool) (chunk : Int) (out : List Int) (n : Nat) (w : World) (h : Ses.WS w b g big chunk out) (hn : (n : Int) < 9223372036854775808) (hlim : out.length + 9 ≤ 140737488355328) :
    Calls Tryd.prog 42 #[.pointer (some ⟨b, 0, none⟩), .iface 2 (.int .i64 n), .int .u8 8, .bool true, .bool false] w (Ses.WP (.tuple #[]) b g big chunk (out ++ (Dg.plainL 8 (n : Int)).reverse) w) := by
  have htb := h.lt
  have htg := h.ltg
  have HMk := Ses.mk8
  have HPut := Lib.hid (fun W : World => Ses.bePut8 W.heap.size 8 n Ses.zeros8b (W.alloc (.cells Ses.zeros8b 5)) (by omega) (xb_new W _) rfl)
  have HWS := Lib.hid h
  have pu : IntKind.u64.wrap (n : Int) = (n : Int) := by simp [IntKind.wrap, IntKind.bits, IntKind.signed]; omega
  have pi : IntKind.i64.wrap (n : Int) = (n : Int) := (IntKind.wrap_i64 _).trans (by omega)
  have HLim := Lib.hid hlim
  have t0 := Ses.ta_int64_int64
  have hll : (Dg.plainL 8 (n : Int)).reverse.length = 8 := by first | rw [List.length_reverse, Dg.plainL_len] | rw [Dg.plainL_len]
  obtain ⟨l, hl⟩ : ∃ l, l = (Dg.plainL 8 (n : Int)).reverse := ⟨_, rfl⟩
  rw [← hl] at HPut hll ⊢
  have HLl := Lib.hid hll
  have HNb := Lib.hid (show ¬ w.heap.size = b by omega)
  have HNg := Lib.hid (show ¬ w.heap.size = g by omega)
  clear h hl hll hlim hn
  have HW3 : Hid (∀ W : World, (w.alloc (.cells Ses.zeros8b 5)).grownBy W (some w.heap.size) → Ses.WS W b g big chunk out) := Lib.hid (fun W hW => (HWS.out.bl (below_alloc (Below.refl _ _) _)).grown hW (fun e => HNb.out (Option.some.inj e).symm) (fun e => HNg.out (Option.some.inj e).symm))
  have HWr : Hid (∀ W : World, Ses.RowAt W w.heap.size l → Ses.WS W b g big chunk out → Calls Tryd.prog 58 #[.pointer (some ⟨b, 1, none⟩), .slice (some ⟨w.heap.size, 0, none⟩) 8 8] W (Ses.WP (.tuple #[.int .i64 8, .nilIface]) b g big chunk (out ++ l) W)) := Lib.hid (fun W hr h => by
    have hC := C_of (k := .u8) (w := W) (l := l) (g := w.heap.size) (o := 0) (by rw [HLl.out]; omega) (fun i hi => by rw [Nat.zero_add]; exact hr i hi)
    have hw := Ses.ws_write b g big chunk out l (some ⟨w.heap.size, 0, none⟩) 8 W h hC (fun a e => by injection e with e; subst e; exact HNb.out) (by rw [HLl.out]; have := HLim.out; omega)
    rw [HLl.out] at hw
    exact hw)
  go_enter Tryd.func42, Tryd.ntmps42
  go_wp2_with (first | (go_at_call 60; (with_reducible refine (HPut.out _).mono ?_); rintro e w2 ⟨rfl, hrow, hgr⟩; have HRow := Lib.hid hrow; have HGr := Lib.hid hgr; clear hrow hgr) | (go_at_call 58; (with_reducible refine (HWr.out _ HRow.out ?hws).mono ?_); (case hws => exact HW3.out _ HGr.out); rintro e w5 ⟨rfl, g5, hst⟩; have HSu := Lib.hid hst; clear hst))
  go_end0
  exact ⟨rfl, g5, HSu.out.prior (Ses.below_put HGr.out) htg⟩
set_option maxHeartbeats 4000000 in
set_option maxRecDepth 100000 in
theorem putInt_le8 (b g : Nat) (big : Bool) (chunk : Int) (out : List Int) (n : Nat) (w : World) (h : Ses.WS w b g big chunk out) (hn : (n : Int) < 9223372036854775808) (hlim : out.length + 9 ≤ 140737488355328) :
    Calls Tryd.prog 42 #[.pointer (some ⟨b, 0, none⟩), .iface 2 (.int .i64 n), .int .u8 8, .bool false, .bool false] w (Ses.WP (.tuple #[]) b g big chunk (out ++ (Dg.plainL 8 (n : Int))) w) := by
  have htb := h.lt
  have htg := h.ltg
  have HMk := Ses.mk8
  have HPut := Lib.hid (fun W : World => Ses.lePut8 W.heap.size 8 n Ses.zeros8b (W.alloc (.cells Ses.zeros8b 5)) (by omega) (xb_new W _) rfl)
  have HWS := Lib.hid h
  have pu : IntKind.u64.wrap (n : Int) = (n : Int) := by simp [IntKind.wrap, IntKind.bits, IntKind.signed]; omega
  have pi : IntKind.i64.wrap (n : Int) = (n : Int) := (IntKind.wrap_i64 _).trans (by omega)
  have HLim := Lib.hid hlim
  have t0 := Ses.ta_int64_int64
  have hll : (Dg.plainL 8 (n : Int)).length = 8 := by first | rw [List.length_reverse, Dg.plainL_len] | rw [Dg.plainL_len]
  obtain ⟨l, hl⟩ : ∃ l, l = (Dg.plainL 8 (n : Int)) := ⟨_, rfl⟩
  rw [← hl] at HPut hll ⊢
  have HLl := Lib.hid hll
  have HNb := Lib.hid (show ¬ w.heap.size = b by omega)
  have HNg := Lib.hid (show ¬ w.heap.size = g by omega)
  clear h hl hll hlim hn
  have HW3 : Hid (∀ W : World, (w.alloc (.cells Ses.zeros8b 5)).grownBy W (some w.heap.size) → Ses.WS W b g big chunk out) := Lib.hid (fun W hW => (HWS.out.bl (below_alloc (Below.refl _ _) _)).grown hW (fun e => HNb.out (Option.some.inj e).symm) (fun e => HNg.out (Option.some.inj e).symm))
  have HWr : Hid (∀ W : World, Ses.RowAt W w.heap.size l → Ses.WS W b g big chunk out → Calls Tryd.prog 58 #[.pointer (some ⟨b, 1, none⟩), .slice (some ⟨w.heap.size, 0, none⟩) 8 8] W (Ses.WP (.tuple #[.int .i64 8, .nilIface]) b g big chunk (out ++ l) W)) := Lib.hid (fun W hr h => by
    have hC := C_of (k := .u8) (w := W) (l := l) (g := w.heap.size) (o := 0) (by rw [HLl.out]; omega) (fun i hi => by rw [Nat.zero_add]; exact hr i hi)
    have hw := Ses.ws_write b g big chunk out l (some ⟨w.heap.size, 0, none⟩) 8 W h hC (fun a e => by injection e with e; subst e; exact HNb.out) (by rw [HLl.out]; have := HLim.out; omega)
    rw [HLl.out] at hw
    exact hw)
  go_enter Tryd.func42, Tryd.ntmps42
  go_wp2_with (first | (go_at_call 66; (with_reducible refine (HPut.out _).mono ?_); rintro e w2 ⟨rfl, hrow, hgr⟩; have HRow := Lib.hid hrow; have HGr := Lib.hid hgr; clear hrow hgr) | (go_at_call 58; (with_reducible refine (HWr.out _ HRow.out ?hws).mono ?_); (case hws => exact HW3.out _ HGr.out); rintro e w5 ⟨rfl, g5, hst⟩; have HSu := Lib.hid hst; clear hst))
  go_end0
  exact ⟨rfl, g5, HSu.out.prior (Ses.below_put HGr.out) htg⟩
end Go.Proofs.YtdnahdddkagfhaaDoor.X
