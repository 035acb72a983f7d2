/- goora.BuildUrl without options; impl.Url; the law FnUrlClean. -/
import Derived.Test.YtipkpgmgjdfgoaaDoorUe
import Derived.Test.YtipkpgmgjdfgoaaDoorJh
import Derived.Test.YtipkpgmgjdfgoaaDoorZE1
import Derived.Laws.Cover3
namespace Go.Proofs.YtipkpgmgjdfgoaaDoor.X
open Go.RowKit Go.Proofs.YtipkpgmgjdfgoaaDoorW.PrintWords Go.Proofs.YtipkpgmgjdfgoaaDoorW.PrintMore
attribute [local go_sem] setCell_drewN alloc_drewN
set_option linter.unusedVariables false
set_option linter.unusedSimpArgs false
def url_PathEscape.f (a0 : ByteArray) : Option ByteArray := url_escape.f a0 2
def url_QueryEscape.f (a0 : ByteArray) : Option ByteArray := url_escape.f a0 32
set_option maxRecDepth 100000 in
theorem url_PathEscape.calls (a0 : ByteArray) (r : ByteArray) (w : World) (h : url_PathEscape.f a0 = some r) (htab : TabU w) :
    Calls Tryd.prog 62 #[.string a0] w fun e w' => e = .returned (.string r) ∧ Below w.heap.size w w' := by
  have hc := Lib.hid (url_escape.calls a0 2 r w h htab)
  clear h htab
  go_enter Tryd.func62, Tryd.ntmps62
  go_wp2_with (go_at_call 78; (with_reducible refine hc.out.mono ?_); rintro e w1 ⟨rfl, hb⟩)
  go_ret
  exact ⟨rfl, hb⟩
set_option maxRecDepth 100000 in
theorem url_QueryEscape.calls (a0 : ByteArray) (r : ByteArray) (w : World) (h : url_QueryEscape.f a0 = some r) (htab : TabU w) :
    Calls Tryd.prog 65 #[.string a0] w fun e w' => e = .returned (.string r) ∧ Below w.heap.size w w' := by
  have hc := Lib.hid (url_escape.calls a0 32 r w h htab)
  clear h htab
  go_enter Tryd.func65, Tryd.ntmps65
  go_wp2_with (go_at_call 78; (with_reducible refine hc.out.mono ?_); rintro e w1 ⟨rfl, hb⟩)
  go_ret
  exact ⟨rfl, hb⟩
namespace Url
def head (u p h s : ByteArray) : ByteArray := (((((((⟨#[111, 114, 97, 99, 108, 101, 58, 47, 47]⟩ : ByteArray) ++ u) ++ (⟨#[58]⟩ : ByteArray)) ++ p) ++ (⟨#[64]⟩ : ByteArray)) ++ h) ++ (⟨#[47]⟩ : ByteArray)) ++ s
/-- The parts of an address, if all of them can be told. -/
def parts (server : ByteArray) (port : Int) (service user password : ByteArray) (u p t h s : ByteArray) : Prop :=
  url_PathEscape.f user = some u ∧ url_PathEscape.f password = some p ∧ strconv_Itoa.f port = some t ∧ net_JoinHostPort.f server t = some h ∧ url_PathEscape.f service = some s ∧
    u.size ≤ 1099511627776 ∧ p.size ≤ 1099511627776 ∧ h.size ≤ 1099511627776 ∧ s.size ≤ 1099511627776
end Url
set_option maxHeartbeats 4000000 in
set_option maxRecDepth 100000 in
theorem BuildUrl_nil (server : ByteArray) (port : Int) (service user password u p t h s : ByteArray) (w : World) (hp : Url.parts server port service user password u p t h s) (htab : TabU w) :
    Calls Tryd.prog 50 #[.string server, .int .i64 port, .string service, .string user, .string password, .map none] w fun e w' => e = .returned (.string (Url.head u p h s)) ∧ Below w.heap.size w w' := by
  obtain ⟨h1, h2, h3, h4, h5, s1, s2, s3, s4⟩ := hp
  have HT := Lib.hid (tabU_all htab)
  have HTt := Lib.hid (fun W (hb : Below w.heap.size w W) => (tabU_all htab W hb).1)
  have HB := Lib.hid (Below.refl w.heap.size w)
  have HU := Lib.hid (fun W hT => url_PathEscape.calls user u W h1 hT)
  have HP := Lib.hid (fun W hT => url_PathEscape.calls password p W h2 hT)
  have HS := Lib.hid (fun W hT => url_PathEscape.calls service s W h5 hT)
  have HI := Lib.hid (fun W (hT : Tab W) => strconv_Itoa.calls port t W h3 hT)
  have HJ := Lib.hid (fun W => net_JoinHostPort.calls server t h W h4)
  have hne : ∀ W, (binOp .neq 79 (.map none) (.map none)).run Tryd.prog W = .ok (.bool false) W := fun W => run_neq_map_nil W 79 9 9 none Tryd.underlying79
  clear h1 h2 h3 h4 h5 htab
  go_enter Tryd.func50, Tryd.ntmps50
  go_wp2_with (first | (go_at_call 62; (with_reducible refine (HU.out _ (HT.out _ HB.out)).mono ?_); rintro e w1 ⟨rfl, hb⟩; have HB1 := Lib.hid (bl_trans HB.out hb); clear HB hb) | (go_at_call 62; (with_reducible refine (HP.out _ (HT.out _ HB1.out)).mono ?_); rintro e w2 ⟨rfl, hb⟩; have HB2 := Lib.hid (bl_trans HB1.out hb); clear HB1 hb) | (go_at_call 49; (with_reducible refine (HI.out _ (HTt.out _ HB2.out)).mono ?_); rintro e w3 ⟨rfl, hb⟩; have HB3 := Lib.hid (bl_trans HB2.out hb); clear HB2 hb) | (go_at_call 59; (with_reducible refine (HJ.out _).mono ?_); rintro e w4 ⟨rfl, n4, rfl⟩; have HB4 := Lib.hid (bl_trans HB3.out (bl_drewN _ n4)); clear HB3) | (go_at_call 62; (with_reducible refine (HS.out _ (HT.out _ HB4.out)).mono ?_); rintro e w5 ⟨rfl, hb⟩; have HB5 := Lib.hid (bl_trans HB4.out hb); clear HB4 hb))
  go_ret
  exact ⟨rfl, HB5.out⟩
set_option maxRecDepth 100000 in
theorem options_nil (w : World) : Calls Tryd.prog 51 #[.slice none 0 0] w fun e w' => e = .returned (.map none) ∧ w = w' := by
  go_enter Tryd.func51, Tryd.ntmps51
  go_wp2
  go_ret
  exact ⟨rfl, rfl⟩
set_option maxHeartbeats 4000000 in
set_option maxRecDepth 100000 in
theorem Url_nil (server : ByteArray) (port : Int) (service user password u p t h s : ByteArray) (w : World) (hp : Url.parts server port service user password u p t h s) (htab : TabU w) :
    Calls Tryd.prog 28 #[.string server, .int .i64 port, .string service, .string user, .string password, .slice none 0 0] w fun e w' => e = .returned (.string (Url.head u p h s)) ∧ Below w.heap.size w w' := by
  have HC := Lib.hid (BuildUrl_nil server port service user password u p t h s w hp htab)
  clear hp htab
  go_enter Tryd.func28, Tryd.ntmps28
  go_wp2_with (first | (go_at_call 51; (with_reducible refine (options_nil _).mono ?_); rintro e w1 ⟨rfl, rfl⟩) | (go_at_call 50; (with_reducible refine HC.out.mono ?_); rintro e w1 ⟨rfl, hb⟩))
  go_ret
  exact ⟨rfl, hb⟩
namespace Url
theorem awake_parts : ∃ u p t h s, parts ⟨#[104]⟩ 1 ⟨#[115]⟩ ⟨#[117]⟩ ⟨#[112, 47]⟩ u p t h s ∧ (head u p h s) = ⟨#[111, 114, 97, 99, 108, 101, 58, 47, 47, 117, 58, 112, 37, 50, 70, 64, 104, 58, 49, 47, 115]⟩ :=
  ⟨⟨#[117]⟩, ⟨#[112, 37, 50, 70]⟩, ⟨#[49]⟩, ⟨#[104, 58, 49]⟩, ⟨#[115]⟩, by unfold parts; decide +kernel, by decide +kernel⟩
end Url
set_option maxHeartbeats 4000000 in
set_option maxRecDepth 100000 in
theorem urlAwake_calls (w : World) (htab : TabU w) : Calls Tryd.prog 27 #[] w fun e w' => e = .returned (.bool true) ∧ Below w.heap.size w w' := by
  obtain ⟨u, p, t, h, s, hp, hh⟩ := Url.awake_parts
  have hc := Url_nil _ _ _ _ _ u p t h s w hp htab
  rw [hh] at hc
  have HC := Lib.hid hc
  clear hc hp hh htab
  go_enter Tryd.func27, Tryd.ntmps27
  go_wp2_with (go_at_call 28; (with_reducible refine HC.out.mono ?_); rintro e w1 ⟨rfl, hb⟩)
  go_ret
  exact ⟨rfl, hb⟩
end Go.Proofs.YtipkpgmgjdfgoaaDoor.X
