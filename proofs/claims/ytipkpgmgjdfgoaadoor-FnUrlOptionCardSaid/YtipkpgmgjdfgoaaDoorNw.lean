/- impl.Network: the address of a server, by the package. -/
import Derived.Test.YtipkpgmgjdfgoaaDoorTc
import Derived.Test.YtipkpgmgjdfgoaaDoorJh
import Derived.Test.YtipkpgmgjdfgoaaDoorZC1
import Derived.Deep.QuietTactic
import Derived.Deep.RegionHeld3
namespace Go.Proofs.YtipkpgmgjdfgoaaDoor.X
open Go.RowKit Go.Proofs.YtipkpgmgjdfgoaaDoorW.PrintWords Go.Proofs.YtipkpgmgjdfgoaaDoorW.PrintMore
attribute [local go_sem] setCell_drewN alloc_drewN
set_option linter.unusedVariables false
set_option linter.unusedSimpArgs false
def impl_Network.f (a0_0 a0_1 : ByteArray) (a0_2 : Int) : Option ByteArray := (strconv_Itoa.f a0_2).bind fun t => net_JoinHostPort.f a0_1 t
set_option maxHeartbeats 2000000 in
set_option maxRecDepth 100000 in
theorem networkAddr (g : Nat) (p a : ByteArray) (n : Int) (t r : ByteArray) (w : World) (h1 : w.cell? ⟨g, 1, none⟩ = some (.string a)) (h2 : w.cell? ⟨g, 2, none⟩ = some (.int .i64 n)) (ht : strconv_Itoa.f n = some t) (hr : net_JoinHostPort.f a t = some r) (htab : Tab w) :
    Calls Tryd.prog 47 #[.pointer (some ⟨g, 0, none⟩)] w fun e w' => e = .returned (.string r) ∧ Below w.heap.size w w' := by
  have HI := Lib.hid (fun W (hT : Tab W) => strconv_Itoa.calls n t W ht hT)
  have HJ := Lib.hid (fun W => net_JoinHostPort.calls a t r W hr)
  have HT := Lib.hid (tab_all htab)
  clear ht hr htab
  go_enter Tryd.func47, Tryd.ntmps47
  go_wp2_with fail
  go_region_held3 (fun w' => w'.cell? ⟨g, 1, none⟩ = some (.string a) ∧ w'.cell? ⟨g, 2, none⟩ = some (.int .i64 n)) (first | exact ⟨h1, h2⟩ | exact ⟨q1, q2⟩) (first | (go_at_call 49; refine (HI.out _ (HT.out _ (bl_drewN w _))).mono ?_; rintro e w3 ⟨rfl, hb3⟩; have hB3 := bl_trans (bl_drewN w _) hb3; have q1 := bl_cell hB3 h1; have q2 := bl_cell hB3 h2; have HB3 := Lib.hid hB3; clear hB3 hb3) | (go_at_call 59; refine (HJ.out _).mono ?_; rintro e w4 ⟨rfl, n4, rfl⟩))
  go_simp
  go_wp2
  go_ret
  exact ⟨rfl, bl_trans HB3.out (bl_drewN _ _)⟩
set_option maxHeartbeats 2000000 in
set_option maxRecDepth 100000 in
theorem impl_Network.calls (a0_0 : ByteArray) (a0_1 : ByteArray) (a0_2 : Int) (r : ByteArray) (w : World) (h : impl_Network.f a0_0 a0_1 a0_2 = some r) (htab : Tab w) :
    Calls Tryd.prog 25 #[.agg #[.string a0_0, .string a0_1, .int .i64 a0_2]] w fun e w' => e = .returned (.string r) ∧ Below w.heap.size w w' := by
  obtain ⟨t, ht, hj⟩ := Option.bind_eq_some_iff.1 h
  have HT := Lib.hid (tab_all htab)
  have H1 := Lib.hid ht
  have H2 := Lib.hid hj
  clear h ht hj htab
  go_enter Tryd.func25, Tryd.ntmps25
  go_wp2_with fail
  refine (ZC.impl_serverOf.calls a0_0 a0_1 a0_2 _ _ _ _ rfl).mono ?_
  rintro e w2 ⟨rfl, hb2⟩
  have HB2 := Lib.hid (((Below.refl w.heap.size w).alloc (Nat.le_refl _) _).trans (hb2.mono (by rw [World.size_alloc]; omega)))
  clear hb2
  go_wp2_with fail
  refine (networkAddr w2.heap.size a0_0 a0_1 a0_2 t r _ (by rw [xb_cell (xb_new _ _)]; rfl) (by rw [xb_cell (xb_new _ _)]; rfl) H1.out H2.out (HT.out _ (HB2.out.alloc (by exact HB2.out.size) _))).mono ?_
  rintro e w3 ⟨rfl, hb3⟩
  have HB3 := Lib.hid ((HB2.out.alloc (by exact HB2.out.size) (.cells #[.string a0_0, .string a0_1, .int .i64 a0_2] 68)).trans (hb3.mono (by rw [World.size_alloc]; have := HB2.out.size; omega)))
  clear hb3
  go_wp2
  go_ret
  exact ⟨rfl, HB3.out⟩
end Go.Proofs.YtipkpgmgjdfgoaaDoor.X
