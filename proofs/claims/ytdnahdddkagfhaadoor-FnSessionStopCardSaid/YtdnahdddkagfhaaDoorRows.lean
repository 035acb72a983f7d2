/-
  NARROWER THAN 'FOR EVERY INPUT', by the rows' own cells (each row's printed sentence says how): FnSessionClr: laid · FnSessionNone: laid · FnSessionPacked: laid · FnSessionMinus: laid · FnSessionTurned: laid · FnSessionStop: laid · FnSessionTorn: laid · FnSessionDlc: laid · FnSessionMinusBack: laid · FnSessionApart: laid · FnSessionPut: laid.
  DERIVED. THE GIVEN ROWS OF THIS SEAT. 11 by the template 'for every input the law returns true; each argument reads behind the call as it read before'; 0 by the template 'total and deterministic' (their statements: YtdnahdddkagfhaaDoorTotals.lean).
  GIVEN WITH THE SEED: the statements are not yours to turn. If you find one false, say at which input.
  Laid BY PROGRAM, IN A SANDBOX (cutbox-rows.mjs): the forced cells as the released guide's own fill.sh prints them over the translation 2de6d3f334460d31… (all of the seat's roots in one cut). By AI agents, Wed Nov 11 2026. No macro, syntax, notation, axiom, sorry.
-/
import Derived.Test.YtdnahdddkagfhaaDoorChecked
import GoSem.Claim
import GoSem.ClaimJoined
import GoSem.ClaimMapViews
import Derived.JoinedTies
import Derived.KernelRfl
namespace Go.Proofs.YtdnahdddkagfhaaDoor
/- THE CELL 'sum', in the pinned program and in every row, IS THE sha256 OF THE DUMP (.gsa) THAT YtdnahdddkagfhaaDoorProg.lean LOADS. Nothing in Lean hashes anything: it is a label: what it is worth is what the hold of that sum in a sandbox is worth. -/
noncomputable def Tryd.pinned : Pinned := { name := "ytdnahdddkagfhaadoor", sum := "2de6d3f334460d313eaae52c1c9df62718374b517dded47bd6fa55b2bdeabb4d", checked := Tryd.checked }
namespace Rows
def none {H : Type} : Left H := { results := [], args := [] }

/- WHAT THE LISTED PACKAGE-LEVEL VARIABLES READ AS WHEN THE CALL BEGINS. Each datum BY PROGRAM (the guide's laid-datum.mjs) off the statement by which the dump's own 'gosem.cut.vars' lays the variable. In a bare row this is a premise. The card (YtdnahdddkagfhaaDoorCards.lean) ties it to the program's text. -/
def laid_bytes_ErrTooLarge {H : Type} : DataW H := .iface "*errors.errorString" (.ptr (.agg [.lit (.string [98, 121, 116, 101, 115, 46, 66, 117, 102, 102, 101, 114, 58, 32, 116, 111, 111, 32, 108, 97, 114, 103, 101])]))
def laid_pub_dodona_pub_goora_network_errEnd {H : Type} : DataW H := .iface "*errors.errorString" (.ptr (.agg [.lit (.string [110, 111, 32, 109, 111, 114, 101, 32, 105, 110, 112, 117, 116])]))

/-- 'laws.FnSessionClr': WHATEVER THE INPUT: true; the input reads as it did. -/
def fnSessionClrSpec : ChangeSpec := { name := "fnSessionClr", fn := fun _ => fun
  | [d1, d2] => { results := [.lit (.bool true)], args := [d1, d2] }
  | _ => none }
def fnSessionClrRow : OpenClaim := { program := "ytdnahdddkagfhaadoor", sum := "2de6d3f334460d313eaae52c1c9df62718374b517dded47bd6fa55b2bdeabb4d", func := "pub-dodona/laws.FnSessionClr", spec := "fnSessionClr", named := ["bytes.ErrTooLarge", "encoding/binary.BigEndian", "encoding/binary.LittleEndian", "pub-dodona/pub/goora/network.errEnd"], apart := false, laid := [("bytes.ErrTooLarge", laid_bytes_ErrTooLarge), ("pub-dodona/pub/goora/network.errEnd", laid_pub_dodona_pub_goora_network_errEnd)] }
def FnSessionClrSaid : Prop := fnSessionClrRow.holds Tryd.pinned (OpenSpec.ofChange fnSessionClrSpec)

/-- ITS FALSE NEIGHBOUR: 'it returns false'. Refute it at one input. -/
def fnSessionClrWrong : ChangeSpec := { name := "fnSessionClr", fn := fun _ => fun
  | [d1, d2] => { results := [.lit (.bool false)], args := [d1, d2] }
  | _ => none }
def FnSessionClrWrongFalsely : Prop := fnSessionClrRow.holds Tryd.pinned (OpenSpec.ofChange fnSessionClrWrong)

/-- 'laws.FnSessionNone': WHATEVER THE INPUT: true; the input reads as it did. -/
def fnSessionNoneSpec : ChangeSpec := { name := "fnSessionNone", fn := fun _ => fun
  | [d1, d2, d3] => { results := [.lit (.bool true)], args := [d1, d2, d3] }
  | _ => none }
def fnSessionNoneRow : OpenClaim := { program := "ytdnahdddkagfhaadoor", sum := "2de6d3f334460d313eaae52c1c9df62718374b517dded47bd6fa55b2bdeabb4d", func := "pub-dodona/laws.FnSessionNone", spec := "fnSessionNone", named := ["bytes.ErrTooLarge", "encoding/binary.BigEndian", "encoding/binary.LittleEndian", "pub-dodona/pub/goora/network.errEnd"], apart := false, laid := [("bytes.ErrTooLarge", laid_bytes_ErrTooLarge), ("pub-dodona/pub/goora/network.errEnd", laid_pub_dodona_pub_goora_network_errEnd)] }
def FnSessionNoneSaid : Prop := fnSessionNoneRow.holds Tryd.pinned (OpenSpec.ofChange fnSessionNoneSpec)

/-- ITS FALSE NEIGHBOUR: 'it returns false'. Refute it at one input. -/
def fnSessionNoneWrong : ChangeSpec := { name := "fnSessionNone", fn := fun _ => fun
  | [d1, d2, d3] => { results := [.lit (.bool false)], args := [d1, d2, d3] }
  | _ => none }
def FnSessionNoneWrongFalsely : Prop := fnSessionNoneRow.holds Tryd.pinned (OpenSpec.ofChange fnSessionNoneWrong)

/-- 'laws.FnSessionPacked': WHATEVER THE INPUT: true; the input reads as it did. -/
def fnSessionPackedSpec : ChangeSpec := { name := "fnSessionPacked", fn := fun _ => fun
  | [d1, d2] => { results := [.lit (.bool true)], args := [d1, d2] }
  | _ => none }
def fnSessionPackedRow : OpenClaim := { program := "ytdnahdddkagfhaadoor", sum := "2de6d3f334460d313eaae52c1c9df62718374b517dded47bd6fa55b2bdeabb4d", func := "pub-dodona/laws.FnSessionPacked", spec := "fnSessionPacked", inPlace := ["internal/bytealg.Compare"], named := ["bytes.ErrTooLarge", "encoding/binary.BigEndian", "encoding/binary.LittleEndian", "pub-dodona/pub/goora/network.errEnd"], apart := false, laid := [("bytes.ErrTooLarge", laid_bytes_ErrTooLarge), ("pub-dodona/pub/goora/network.errEnd", laid_pub_dodona_pub_goora_network_errEnd)] }
def FnSessionPackedSaid : Prop := fnSessionPackedRow.holds Tryd.pinned (OpenSpec.ofChange fnSessionPackedSpec)

/-- ITS FALSE NEIGHBOUR: 'it returns false'. Refute it at one input. -/
def fnSessionPackedWrong : ChangeSpec := { name := "fnSessionPacked", fn := fun _ => fun
  | [d1, d2] => { results := [.lit (.bool false)], args := [d1, d2] }
  | _ => none }
def FnSessionPackedWrongFalsely : Prop := fnSessionPackedRow.holds Tryd.pinned (OpenSpec.ofChange fnSessionPackedWrong)

/-- 'laws.FnSessionMinus': WHATEVER THE INPUT: true; the input reads as it did. -/
def fnSessionMinusSpec : ChangeSpec := { name := "fnSessionMinus", fn := fun _ => fun
  | [d] => { results := [.lit (.bool true)], args := [d] }
  | _ => none }
def fnSessionMinusRow : OpenClaim := { program := "ytdnahdddkagfhaadoor", sum := "2de6d3f334460d313eaae52c1c9df62718374b517dded47bd6fa55b2bdeabb4d", func := "pub-dodona/laws.FnSessionMinus", spec := "fnSessionMinus", named := ["pub-dodona/pub/goora/network.errEnd", "encoding/binary.BigEndian", "encoding/binary.LittleEndian", "bytes.ErrTooLarge"], apart := false, laid := [("bytes.ErrTooLarge", laid_bytes_ErrTooLarge), ("pub-dodona/pub/goora/network.errEnd", laid_pub_dodona_pub_goora_network_errEnd)] }
def FnSessionMinusSaid : Prop := fnSessionMinusRow.holds Tryd.pinned (OpenSpec.ofChange fnSessionMinusSpec)

/-- ITS FALSE NEIGHBOUR: 'it returns false'. Refute it at one input. -/
def fnSessionMinusWrong : ChangeSpec := { name := "fnSessionMinus", fn := fun _ => fun
  | [d] => { results := [.lit (.bool false)], args := [d] }
  | _ => none }
def FnSessionMinusWrongFalsely : Prop := fnSessionMinusRow.holds Tryd.pinned (OpenSpec.ofChange fnSessionMinusWrong)

/-- 'laws.FnSessionTurned': WHATEVER THE INPUT: true; the input reads as it did. -/
def fnSessionTurnedSpec : ChangeSpec := { name := "fnSessionTurned", fn := fun _ => fun
  | [d1, d2] => { results := [.lit (.bool true)], args := [d1, d2] }
  | _ => none }
def fnSessionTurnedRow : OpenClaim := { program := "ytdnahdddkagfhaadoor", sum := "2de6d3f334460d313eaae52c1c9df62718374b517dded47bd6fa55b2bdeabb4d", func := "pub-dodona/laws.FnSessionTurned", spec := "fnSessionTurned", named := ["pub-dodona/pub/goora/network.errEnd", "encoding/binary.BigEndian", "encoding/binary.LittleEndian", "bytes.ErrTooLarge"], apart := false, laid := [("bytes.ErrTooLarge", laid_bytes_ErrTooLarge), ("pub-dodona/pub/goora/network.errEnd", laid_pub_dodona_pub_goora_network_errEnd)] }
def FnSessionTurnedSaid : Prop := fnSessionTurnedRow.holds Tryd.pinned (OpenSpec.ofChange fnSessionTurnedSpec)

/-- ITS FALSE NEIGHBOUR: 'it returns false'. Refute it at one input. -/
def fnSessionTurnedWrong : ChangeSpec := { name := "fnSessionTurned", fn := fun _ => fun
  | [d1, d2] => { results := [.lit (.bool false)], args := [d1, d2] }
  | _ => none }
def FnSessionTurnedWrongFalsely : Prop := fnSessionTurnedRow.holds Tryd.pinned (OpenSpec.ofChange fnSessionTurnedWrong)

/-- 'laws.FnSessionStop': WHATEVER THE INPUT: true; the input reads as it did. -/
def fnSessionStopSpec : ChangeSpec := { name := "fnSessionStop", fn := fun _ => fun
  | [d1, d2, d3, d4] => { results := [.lit (.bool true)], args := [d1, d2, d3, d4] }
  | _ => none }
def fnSessionStopRow : OpenClaim := { program := "ytdnahdddkagfhaadoor", sum := "2de6d3f334460d313eaae52c1c9df62718374b517dded47bd6fa55b2bdeabb4d", func := "pub-dodona/laws.FnSessionStop", spec := "fnSessionStop", unfollowed := true, recurses := true, named := ["bytes.ErrTooLarge", "encoding/binary.BigEndian", "encoding/binary.LittleEndian", "pub-dodona/pub/goora/network.errEnd"], apart := false, laid := [("bytes.ErrTooLarge", laid_bytes_ErrTooLarge), ("pub-dodona/pub/goora/network.errEnd", laid_pub_dodona_pub_goora_network_errEnd)] }
def FnSessionStopSaid : Prop := fnSessionStopRow.holds Tryd.pinned (OpenSpec.ofChange fnSessionStopSpec)

/-- ITS FALSE NEIGHBOUR: 'it returns false'. Refute it at one input. -/
def fnSessionStopWrong : ChangeSpec := { name := "fnSessionStop", fn := fun _ => fun
  | [d1, d2, d3, d4] => { results := [.lit (.bool false)], args := [d1, d2, d3, d4] }
  | _ => none }
def FnSessionStopWrongFalsely : Prop := fnSessionStopRow.holds Tryd.pinned (OpenSpec.ofChange fnSessionStopWrong)

/-- 'laws.FnSessionTorn': WHATEVER THE INPUT: true; the input reads as it did. -/
def fnSessionTornSpec : ChangeSpec := { name := "fnSessionTorn", fn := fun _ => fun
  | [d1, d2, d3, d4] => { results := [.lit (.bool true)], args := [d1, d2, d3, d4] }
  | _ => none }
def fnSessionTornRow : OpenClaim := { program := "ytdnahdddkagfhaadoor", sum := "2de6d3f334460d313eaae52c1c9df62718374b517dded47bd6fa55b2bdeabb4d", func := "pub-dodona/laws.FnSessionTorn", spec := "fnSessionTorn", unfollowed := true, recurses := true, named := ["bytes.ErrTooLarge", "encoding/binary.BigEndian", "encoding/binary.LittleEndian", "pub-dodona/pub/goora/network.errEnd"], apart := false, laid := [("bytes.ErrTooLarge", laid_bytes_ErrTooLarge), ("pub-dodona/pub/goora/network.errEnd", laid_pub_dodona_pub_goora_network_errEnd)] }
def FnSessionTornSaid : Prop := fnSessionTornRow.holds Tryd.pinned (OpenSpec.ofChange fnSessionTornSpec)

/-- ITS FALSE NEIGHBOUR: 'it returns false'. Refute it at one input. -/
def fnSessionTornWrong : ChangeSpec := { name := "fnSessionTorn", fn := fun _ => fun
  | [d1, d2, d3, d4] => { results := [.lit (.bool false)], args := [d1, d2, d3, d4] }
  | _ => none }
def FnSessionTornWrongFalsely : Prop := fnSessionTornRow.holds Tryd.pinned (OpenSpec.ofChange fnSessionTornWrong)

/-- 'laws.FnSessionDlc': WHATEVER THE INPUT: true; the input reads as it did. -/
def fnSessionDlcSpec : ChangeSpec := { name := "fnSessionDlc", fn := fun _ => fun
  | [d1, d2, d3] => { results := [.lit (.bool true)], args := [d1, d2, d3] }
  | _ => none }
def fnSessionDlcRow : OpenClaim := { program := "ytdnahdddkagfhaadoor", sum := "2de6d3f334460d313eaae52c1c9df62718374b517dded47bd6fa55b2bdeabb4d", func := "pub-dodona/laws.FnSessionDlc", spec := "fnSessionDlc", named := ["bytes.ErrTooLarge", "encoding/binary.BigEndian", "encoding/binary.LittleEndian", "pub-dodona/pub/goora/network.errEnd"], apart := false, laid := [("bytes.ErrTooLarge", laid_bytes_ErrTooLarge), ("pub-dodona/pub/goora/network.errEnd", laid_pub_dodona_pub_goora_network_errEnd)] }
def FnSessionDlcSaid : Prop := fnSessionDlcRow.holds Tryd.pinned (OpenSpec.ofChange fnSessionDlcSpec)

/-- ITS FALSE NEIGHBOUR: 'it returns false'. Refute it at one input. -/
def fnSessionDlcWrong : ChangeSpec := { name := "fnSessionDlc", fn := fun _ => fun
  | [d1, d2, d3] => { results := [.lit (.bool false)], args := [d1, d2, d3] }
  | _ => none }
def FnSessionDlcWrongFalsely : Prop := fnSessionDlcRow.holds Tryd.pinned (OpenSpec.ofChange fnSessionDlcWrong)

/-- 'laws.FnSessionMinusBack': WHATEVER THE INPUT: true; the input reads as it did. -/
def fnSessionMinusBackSpec : ChangeSpec := { name := "fnSessionMinusBack", fn := fun _ => fun
  | [d1, d2] => { results := [.lit (.bool true)], args := [d1, d2] }
  | _ => none }
def fnSessionMinusBackRow : OpenClaim := { program := "ytdnahdddkagfhaadoor", sum := "2de6d3f334460d313eaae52c1c9df62718374b517dded47bd6fa55b2bdeabb4d", func := "pub-dodona/laws.FnSessionMinusBack", spec := "fnSessionMinusBack", named := ["bytes.ErrTooLarge", "encoding/binary.BigEndian", "encoding/binary.LittleEndian", "pub-dodona/pub/goora/network.errEnd"], apart := false, laid := [("bytes.ErrTooLarge", laid_bytes_ErrTooLarge), ("pub-dodona/pub/goora/network.errEnd", laid_pub_dodona_pub_goora_network_errEnd)] }
def FnSessionMinusBackSaid : Prop := fnSessionMinusBackRow.holds Tryd.pinned (OpenSpec.ofChange fnSessionMinusBackSpec)

/-- ITS FALSE NEIGHBOUR: 'it returns false'. Refute it at one input. -/
def fnSessionMinusBackWrong : ChangeSpec := { name := "fnSessionMinusBack", fn := fun _ => fun
  | [d1, d2] => { results := [.lit (.bool false)], args := [d1, d2] }
  | _ => none }
def FnSessionMinusBackWrongFalsely : Prop := fnSessionMinusBackRow.holds Tryd.pinned (OpenSpec.ofChange fnSessionMinusBackWrong)

/-- 'laws.FnSessionApart': WHATEVER THE INPUT: true; the input reads as it did. -/
def fnSessionApartSpec : ChangeSpec := { name := "fnSessionApart", fn := fun _ => fun
  | [d1, d2, d3, d4] => { results := [.lit (.bool true)], args := [d1, d2, d3, d4] }
  | _ => none }
def fnSessionApartRow : OpenClaim := { program := "ytdnahdddkagfhaadoor", sum := "2de6d3f334460d313eaae52c1c9df62718374b517dded47bd6fa55b2bdeabb4d", func := "pub-dodona/laws.FnSessionApart", spec := "fnSessionApart", unfollowed := true, recurses := true, named := ["bytes.ErrTooLarge", "encoding/binary.BigEndian", "encoding/binary.LittleEndian", "pub-dodona/pub/goora/network.errEnd"], apart := false, laid := [("bytes.ErrTooLarge", laid_bytes_ErrTooLarge), ("pub-dodona/pub/goora/network.errEnd", laid_pub_dodona_pub_goora_network_errEnd)] }
def FnSessionApartSaid : Prop := fnSessionApartRow.holds Tryd.pinned (OpenSpec.ofChange fnSessionApartSpec)

/-- ITS FALSE NEIGHBOUR: 'it returns false'. Refute it at one input. -/
def fnSessionApartWrong : ChangeSpec := { name := "fnSessionApart", fn := fun _ => fun
  | [d1, d2, d3, d4] => { results := [.lit (.bool false)], args := [d1, d2, d3, d4] }
  | _ => none }
def FnSessionApartWrongFalsely : Prop := fnSessionApartRow.holds Tryd.pinned (OpenSpec.ofChange fnSessionApartWrong)

/-- 'laws.FnSessionPut': WHATEVER THE INPUT: true; the input reads as it did. -/
def fnSessionPutSpec : ChangeSpec := { name := "fnSessionPut", fn := fun _ => fun
  | [d1, d2, d3] => { results := [.lit (.bool true)], args := [d1, d2, d3] }
  | _ => none }
def fnSessionPutRow : OpenClaim := { program := "ytdnahdddkagfhaadoor", sum := "2de6d3f334460d313eaae52c1c9df62718374b517dded47bd6fa55b2bdeabb4d", func := "pub-dodona/laws.FnSessionPut", spec := "fnSessionPut", unfollowed := true, recurses := true, named := ["bytes.ErrTooLarge", "encoding/binary.BigEndian", "encoding/binary.LittleEndian", "pub-dodona/pub/goora/network.errEnd"], apart := false, laid := [("bytes.ErrTooLarge", laid_bytes_ErrTooLarge), ("pub-dodona/pub/goora/network.errEnd", laid_pub_dodona_pub_goora_network_errEnd)] }
def FnSessionPutSaid : Prop := fnSessionPutRow.holds Tryd.pinned (OpenSpec.ofChange fnSessionPutSpec)

/-- ITS FALSE NEIGHBOUR: 'it returns false'. Refute it at one input. -/
def fnSessionPutWrong : ChangeSpec := { name := "fnSessionPut", fn := fun _ => fun
  | [d1, d2, d3] => { results := [.lit (.bool false)], args := [d1, d2, d3] }
  | _ => none }
def FnSessionPutWrongFalsely : Prop := fnSessionPutRow.holds Tryd.pinned (OpenSpec.ofChange fnSessionPutWrong)

/- THE SECOND FORM. 'bulk': how many values and letters a reading holds, each counted each time it is reached (what is shared counts as often as it is met; a slice's spare places count too). A statement '..UptoSaid' is the law's where the arguments, and the package variables that the reading takes, are together of bulk at most 1048576: NARROWER than '..Said'. Prove '..Said' where nothing that the law and all that it calls make is longer than what came in: it says more and counts as full. Else prove '..UptoSaid'. A law counts once. -/
mutual
def uptoBulk {H : Type} : DataW H → Nat
  | .lit (.string bytes) => bytes.length + 1
  | .lit _ => 1
  | .nil => 1
  | .ptr d => uptoBulk d + 1
  | .slice elems spare => uptoBulkAll elems + uptoBulkAll spare + 1
  | .agg parts => uptoBulkAll parts + 1
  | .iface _ d => uptoBulk d + 1
  | .map entries => uptoBulkEntries entries + 1
  | .held _ => 1
def uptoBulkAll {H : Type} : List (DataW H) → Nat
  | [] => 0
  | d :: r => uptoBulk d + uptoBulkAll r
def uptoBulkEntries {H : Type} : List (Lit × DataW H) → Nat
  | [] => 0
  | x :: r => uptoBulkEntry x + uptoBulkEntries r
def uptoBulkEntry {H : Type} : Lit × DataW H → Nat
  | (.string bytes, d) => bytes.length + uptoBulk d + 1
  | (_, d) => uptoBulk d + 1
 end
def uptoSmall : (H : Type) → List (DataW H) → Bool := fun _ ds => decide (uptoBulkAll ds ≤ 1048576)
def OpenSpec.upto (s : _root_.Go.ChangeSpec) : _root_.Go.OpenSpec := { _root_.Go.OpenSpec.ofChange s with cond := some uptoSmall }

/-- 'laws.FnSessionClr', WHERE WHAT IT READS IS OF BULK AT MOST 1048576: true; the input reads as it did. -/
def fnSessionClrUptoRow : OpenClaim := { program := "ytdnahdddkagfhaadoor", sum := "2de6d3f334460d313eaae52c1c9df62718374b517dded47bd6fa55b2bdeabb4d", func := "pub-dodona/laws.FnSessionClr", spec := "fnSessionClr", named := ["bytes.ErrTooLarge", "encoding/binary.BigEndian", "encoding/binary.LittleEndian", "pub-dodona/pub/goora/network.errEnd"], apart := false, laid := [("bytes.ErrTooLarge", laid_bytes_ErrTooLarge), ("pub-dodona/pub/goora/network.errEnd", laid_pub_dodona_pub_goora_network_errEnd)], narrowed := true }
def FnSessionClrUptoSaid : Prop := fnSessionClrUptoRow.holds Tryd.pinned (OpenSpec.upto fnSessionClrSpec)

/-- 'laws.FnSessionNone', WHERE WHAT IT READS IS OF BULK AT MOST 1048576: true; the input reads as it did. -/
def fnSessionNoneUptoRow : OpenClaim := { program := "ytdnahdddkagfhaadoor", sum := "2de6d3f334460d313eaae52c1c9df62718374b517dded47bd6fa55b2bdeabb4d", func := "pub-dodona/laws.FnSessionNone", spec := "fnSessionNone", named := ["bytes.ErrTooLarge", "encoding/binary.BigEndian", "encoding/binary.LittleEndian", "pub-dodona/pub/goora/network.errEnd"], apart := false, laid := [("bytes.ErrTooLarge", laid_bytes_ErrTooLarge), ("pub-dodona/pub/goora/network.errEnd", laid_pub_dodona_pub_goora_network_errEnd)], narrowed := true }
def FnSessionNoneUptoSaid : Prop := fnSessionNoneUptoRow.holds Tryd.pinned (OpenSpec.upto fnSessionNoneSpec)

/-- 'laws.FnSessionPacked', WHERE WHAT IT READS IS OF BULK AT MOST 1048576: true; the input reads as it did. -/
def fnSessionPackedUptoRow : OpenClaim := { program := "ytdnahdddkagfhaadoor", sum := "2de6d3f334460d313eaae52c1c9df62718374b517dded47bd6fa55b2bdeabb4d", func := "pub-dodona/laws.FnSessionPacked", spec := "fnSessionPacked", inPlace := ["internal/bytealg.Compare"], named := ["bytes.ErrTooLarge", "encoding/binary.BigEndian", "encoding/binary.LittleEndian", "pub-dodona/pub/goora/network.errEnd"], apart := false, laid := [("bytes.ErrTooLarge", laid_bytes_ErrTooLarge), ("pub-dodona/pub/goora/network.errEnd", laid_pub_dodona_pub_goora_network_errEnd)], narrowed := true }
def FnSessionPackedUptoSaid : Prop := fnSessionPackedUptoRow.holds Tryd.pinned (OpenSpec.upto fnSessionPackedSpec)

/-- 'laws.FnSessionMinus', WHERE WHAT IT READS IS OF BULK AT MOST 1048576: true; the input reads as it did. -/
def fnSessionMinusUptoRow : OpenClaim := { program := "ytdnahdddkagfhaadoor", sum := "2de6d3f334460d313eaae52c1c9df62718374b517dded47bd6fa55b2bdeabb4d", func := "pub-dodona/laws.FnSessionMinus", spec := "fnSessionMinus", named := ["pub-dodona/pub/goora/network.errEnd", "encoding/binary.BigEndian", "encoding/binary.LittleEndian", "bytes.ErrTooLarge"], apart := false, laid := [("bytes.ErrTooLarge", laid_bytes_ErrTooLarge), ("pub-dodona/pub/goora/network.errEnd", laid_pub_dodona_pub_goora_network_errEnd)], narrowed := true }
def FnSessionMinusUptoSaid : Prop := fnSessionMinusUptoRow.holds Tryd.pinned (OpenSpec.upto fnSessionMinusSpec)

/-- 'laws.FnSessionTurned', WHERE WHAT IT READS IS OF BULK AT MOST 1048576: true; the input reads as it did. -/
def fnSessionTurnedUptoRow : OpenClaim := { program := "ytdnahdddkagfhaadoor", sum := "2de6d3f334460d313eaae52c1c9df62718374b517dded47bd6fa55b2bdeabb4d", func := "pub-dodona/laws.FnSessionTurned", spec := "fnSessionTurned", named := ["pub-dodona/pub/goora/network.errEnd", "encoding/binary.BigEndian", "encoding/binary.LittleEndian", "bytes.ErrTooLarge"], apart := false, laid := [("bytes.ErrTooLarge", laid_bytes_ErrTooLarge), ("pub-dodona/pub/goora/network.errEnd", laid_pub_dodona_pub_goora_network_errEnd)], narrowed := true }
def FnSessionTurnedUptoSaid : Prop := fnSessionTurnedUptoRow.holds Tryd.pinned (OpenSpec.upto fnSessionTurnedSpec)

/-- 'laws.FnSessionStop', WHERE WHAT IT READS IS OF BULK AT MOST 1048576: true; the input reads as it did. -/
def fnSessionStopUptoRow : OpenClaim := { program := "ytdnahdddkagfhaadoor", sum := "2de6d3f334460d313eaae52c1c9df62718374b517dded47bd6fa55b2bdeabb4d", func := "pub-dodona/laws.FnSessionStop", spec := "fnSessionStop", unfollowed := true, recurses := true, named := ["bytes.ErrTooLarge", "encoding/binary.BigEndian", "encoding/binary.LittleEndian", "pub-dodona/pub/goora/network.errEnd"], apart := false, laid := [("bytes.ErrTooLarge", laid_bytes_ErrTooLarge), ("pub-dodona/pub/goora/network.errEnd", laid_pub_dodona_pub_goora_network_errEnd)], narrowed := true }
def FnSessionStopUptoSaid : Prop := fnSessionStopUptoRow.holds Tryd.pinned (OpenSpec.upto fnSessionStopSpec)

/-- 'laws.FnSessionTorn', WHERE WHAT IT READS IS OF BULK AT MOST 1048576: true; the input reads as it did. -/
def fnSessionTornUptoRow : OpenClaim := { program := "ytdnahdddkagfhaadoor", sum := "2de6d3f334460d313eaae52c1c9df62718374b517dded47bd6fa55b2bdeabb4d", func := "pub-dodona/laws.FnSessionTorn", spec := "fnSessionTorn", unfollowed := true, recurses := true, named := ["bytes.ErrTooLarge", "encoding/binary.BigEndian", "encoding/binary.LittleEndian", "pub-dodona/pub/goora/network.errEnd"], apart := false, laid := [("bytes.ErrTooLarge", laid_bytes_ErrTooLarge), ("pub-dodona/pub/goora/network.errEnd", laid_pub_dodona_pub_goora_network_errEnd)], narrowed := true }
def FnSessionTornUptoSaid : Prop := fnSessionTornUptoRow.holds Tryd.pinned (OpenSpec.upto fnSessionTornSpec)

/-- 'laws.FnSessionDlc', WHERE WHAT IT READS IS OF BULK AT MOST 1048576: true; the input reads as it did. -/
def fnSessionDlcUptoRow : OpenClaim := { program := "ytdnahdddkagfhaadoor", sum := "2de6d3f334460d313eaae52c1c9df62718374b517dded47bd6fa55b2bdeabb4d", func := "pub-dodona/laws.FnSessionDlc", spec := "fnSessionDlc", named := ["bytes.ErrTooLarge", "encoding/binary.BigEndian", "encoding/binary.LittleEndian", "pub-dodona/pub/goora/network.errEnd"], apart := false, laid := [("bytes.ErrTooLarge", laid_bytes_ErrTooLarge), ("pub-dodona/pub/goora/network.errEnd", laid_pub_dodona_pub_goora_network_errEnd)], narrowed := true }
def FnSessionDlcUptoSaid : Prop := fnSessionDlcUptoRow.holds Tryd.pinned (OpenSpec.upto fnSessionDlcSpec)

/-- 'laws.FnSessionMinusBack', WHERE WHAT IT READS IS OF BULK AT MOST 1048576: true; the input reads as it did. -/
def fnSessionMinusBackUptoRow : OpenClaim := { program := "ytdnahdddkagfhaadoor", sum := "2de6d3f334460d313eaae52c1c9df62718374b517dded47bd6fa55b2bdeabb4d", func := "pub-dodona/laws.FnSessionMinusBack", spec := "fnSessionMinusBack", named := ["bytes.ErrTooLarge", "encoding/binary.BigEndian", "encoding/binary.LittleEndian", "pub-dodona/pub/goora/network.errEnd"], apart := false, laid := [("bytes.ErrTooLarge", laid_bytes_ErrTooLarge), ("pub-dodona/pub/goora/network.errEnd", laid_pub_dodona_pub_goora_network_errEnd)], narrowed := true }
def FnSessionMinusBackUptoSaid : Prop := fnSessionMinusBackUptoRow.holds Tryd.pinned (OpenSpec.upto fnSessionMinusBackSpec)

/-- 'laws.FnSessionApart', WHERE WHAT IT READS IS OF BULK AT MOST 1048576: true; the input reads as it did. -/
def fnSessionApartUptoRow : OpenClaim := { program := "ytdnahdddkagfhaadoor", sum := "2de6d3f334460d313eaae52c1c9df62718374b517dded47bd6fa55b2bdeabb4d", func := "pub-dodona/laws.FnSessionApart", spec := "fnSessionApart", unfollowed := true, recurses := true, named := ["bytes.ErrTooLarge", "encoding/binary.BigEndian", "encoding/binary.LittleEndian", "pub-dodona/pub/goora/network.errEnd"], apart := false, laid := [("bytes.ErrTooLarge", laid_bytes_ErrTooLarge), ("pub-dodona/pub/goora/network.errEnd", laid_pub_dodona_pub_goora_network_errEnd)], narrowed := true }
def FnSessionApartUptoSaid : Prop := fnSessionApartUptoRow.holds Tryd.pinned (OpenSpec.upto fnSessionApartSpec)

/-- 'laws.FnSessionPut', WHERE WHAT IT READS IS OF BULK AT MOST 1048576: true; the input reads as it did. -/
def fnSessionPutUptoRow : OpenClaim := { program := "ytdnahdddkagfhaadoor", sum := "2de6d3f334460d313eaae52c1c9df62718374b517dded47bd6fa55b2bdeabb4d", func := "pub-dodona/laws.FnSessionPut", spec := "fnSessionPut", unfollowed := true, recurses := true, named := ["bytes.ErrTooLarge", "encoding/binary.BigEndian", "encoding/binary.LittleEndian", "pub-dodona/pub/goora/network.errEnd"], apart := false, laid := [("bytes.ErrTooLarge", laid_bytes_ErrTooLarge), ("pub-dodona/pub/goora/network.errEnd", laid_pub_dodona_pub_goora_network_errEnd)], narrowed := true }
def FnSessionPutUptoSaid : Prop := fnSessionPutUptoRow.holds Tryd.pinned (OpenSpec.upto fnSessionPutSpec)

end Rows
end Go.Proofs.YtdnahdddkagfhaaDoor
