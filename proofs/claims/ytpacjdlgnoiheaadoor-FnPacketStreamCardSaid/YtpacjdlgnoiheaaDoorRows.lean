/-
  NARROWER THAN 'FOR EVERY INPUT', by the rows' own cells (each row's printed sentence says how): FnPacketRefuse: laid · FnPacketDataRead: laid · FnPacketStream: laid · FnPacketUnits: laid · FnPacketMarker: laid · FnPacketMarks: laid.
  DERIVED. THE GIVEN ROWS OF THIS SEAT. 6 by the template 'for every input the law returns true; each argument reads behind the call as it read before'; 0 by the template 'total and deterministic' (their statements: YtpacjdlgnoiheaaDoorTotals.lean).
  GIVEN WITH THE SEED: the statements are not yours to turn. If you find one false, say at which input.
  Laid BY PROGRAM, IN A SANDBOX (cutbox-rows.mjs): the forced cells as the released guide's own fill.sh prints them over the translation 0f129c6e2b5d6131… (all of the seat's roots in one cut). By AI agents, Wed Nov 11 2026. No macro, syntax, notation, axiom, sorry.
-/
import Derived.Test.YtpacjdlgnoiheaaDoorChecked
import GoSem.Claim
import GoSem.ClaimJoined
import GoSem.ClaimMapViews
import Derived.JoinedTies
import Derived.KernelRfl
namespace Go.Proofs.YtpacjdlgnoiheaaDoor
/- THE CELL 'sum', in the pinned program and in every row, IS THE sha256 OF THE DUMP (.gsa) THAT YtpacjdlgnoiheaaDoorProg.lean LOADS. Nothing in Lean hashes anything: it is a label: what it is worth is what the hold of that sum in a sandbox is worth. -/
noncomputable def Tryd.pinned : Pinned := { name := "ytpacjdlgnoiheaadoor", sum := "0f129c6e2b5d61314adb8f80cd074233a81e918b720a5d6466f33059ca2b316b", checked := Tryd.checked }
namespace Rows
def none {H : Type} : Left H := { results := [], args := [] }

/- WHAT THE LISTED PACKAGE-LEVEL VARIABLES READ AS WHEN THE CALL BEGINS. Each datum BY PROGRAM (the guide's laid-datum.mjs) off the statement by which the dump's own 'gosem.cut.vars' lays the variable. In a bare row this is a premise. The card (YtpacjdlgnoiheaaDoorCards.lean) ties it to the program's text. -/
def laid_bytes_ErrTooLarge {H : Type} : DataW H := .iface "*errors.errorString" (.ptr (.agg [.lit (.string [98, 121, 116, 101, 115, 46, 66, 117, 102, 102, 101, 114, 58, 32, 116, 111, 111, 32, 108, 97, 114, 103, 101])]))

/-- 'laws.FnPacketRefuse': WHATEVER THE INPUT: true; the input reads as it did. -/
def fnPacketRefuseSpec : ChangeSpec := { name := "fnPacketRefuse", fn := fun _ => fun
  | [d1, d2, d3, d4, d5] => { results := [.lit (.bool true)], args := [d1, d2, d3, d4, d5] }
  | _ => none }
def fnPacketRefuseRow : OpenClaim := { program := "ytpacjdlgnoiheaadoor", sum := "0f129c6e2b5d61314adb8f80cd074233a81e918b720a5d6466f33059ca2b316b", func := "pub-dodona/laws.FnPacketRefuse", spec := "fnPacketRefuse", named := ["encoding/binary.BigEndian", "bytes.ErrTooLarge"], apart := false, laid := [("bytes.ErrTooLarge", laid_bytes_ErrTooLarge)] }
def FnPacketRefuseSaid : Prop := fnPacketRefuseRow.holds Tryd.pinned (OpenSpec.ofChange fnPacketRefuseSpec)

/-- ITS FALSE NEIGHBOUR: 'it returns false'. Refute it at one input. -/
def fnPacketRefuseWrong : ChangeSpec := { name := "fnPacketRefuse", fn := fun _ => fun
  | [d1, d2, d3, d4, d5] => { results := [.lit (.bool false)], args := [d1, d2, d3, d4, d5] }
  | _ => none }
def FnPacketRefuseWrongFalsely : Prop := fnPacketRefuseRow.holds Tryd.pinned (OpenSpec.ofChange fnPacketRefuseWrong)

/-- 'laws.FnPacketDataRead': WHATEVER THE INPUT: true; the input reads as it did. -/
def fnPacketDataReadSpec : ChangeSpec := { name := "fnPacketDataRead", fn := fun _ => fun
  | [d1, d2] => { results := [.lit (.bool true)], args := [d1, d2] }
  | _ => none }
def fnPacketDataReadRow : OpenClaim := { program := "ytpacjdlgnoiheaadoor", sum := "0f129c6e2b5d61314adb8f80cd074233a81e918b720a5d6466f33059ca2b316b", func := "pub-dodona/laws.FnPacketDataRead", spec := "fnPacketDataRead", named := ["encoding/binary.BigEndian", "bytes.ErrTooLarge"], apart := false, laid := [("bytes.ErrTooLarge", laid_bytes_ErrTooLarge)] }
def FnPacketDataReadSaid : Prop := fnPacketDataReadRow.holds Tryd.pinned (OpenSpec.ofChange fnPacketDataReadSpec)

/-- ITS FALSE NEIGHBOUR: 'it returns false'. Refute it at one input. -/
def fnPacketDataReadWrong : ChangeSpec := { name := "fnPacketDataRead", fn := fun _ => fun
  | [d1, d2] => { results := [.lit (.bool false)], args := [d1, d2] }
  | _ => none }
def FnPacketDataReadWrongFalsely : Prop := fnPacketDataReadRow.holds Tryd.pinned (OpenSpec.ofChange fnPacketDataReadWrong)

/-- 'laws.FnPacketStream': WHATEVER THE INPUT: true; the input reads as it did. -/
def fnPacketStreamSpec : ChangeSpec := { name := "fnPacketStream", fn := fun _ => fun
  | [d1, d2] => { results := [.lit (.bool true)], args := [d1, d2] }
  | _ => none }
def fnPacketStreamRow : OpenClaim := { program := "ytpacjdlgnoiheaadoor", sum := "0f129c6e2b5d61314adb8f80cd074233a81e918b720a5d6466f33059ca2b316b", func := "pub-dodona/laws.FnPacketStream", spec := "fnPacketStream", named := ["encoding/binary.BigEndian", "bytes.ErrTooLarge"], apart := false, laid := [("bytes.ErrTooLarge", laid_bytes_ErrTooLarge)] }
def FnPacketStreamSaid : Prop := fnPacketStreamRow.holds Tryd.pinned (OpenSpec.ofChange fnPacketStreamSpec)

/-- ITS FALSE NEIGHBOUR: 'it returns false'. Refute it at one input. -/
def fnPacketStreamWrong : ChangeSpec := { name := "fnPacketStream", fn := fun _ => fun
  | [d1, d2] => { results := [.lit (.bool false)], args := [d1, d2] }
  | _ => none }
def FnPacketStreamWrongFalsely : Prop := fnPacketStreamRow.holds Tryd.pinned (OpenSpec.ofChange fnPacketStreamWrong)

/-- 'laws.FnPacketUnits': WHATEVER THE INPUT: true; the input reads as it did. -/
def fnPacketUnitsSpec : ChangeSpec := { name := "fnPacketUnits", fn := fun _ => fun
  | [d1, d2] => { results := [.lit (.bool true)], args := [d1, d2] }
  | _ => none }
def fnPacketUnitsRow : OpenClaim := { program := "ytpacjdlgnoiheaadoor", sum := "0f129c6e2b5d61314adb8f80cd074233a81e918b720a5d6466f33059ca2b316b", func := "pub-dodona/laws.FnPacketUnits", spec := "fnPacketUnits", named := ["encoding/binary.BigEndian", "bytes.ErrTooLarge"], apart := false, laid := [("bytes.ErrTooLarge", laid_bytes_ErrTooLarge)] }
def FnPacketUnitsSaid : Prop := fnPacketUnitsRow.holds Tryd.pinned (OpenSpec.ofChange fnPacketUnitsSpec)

/-- ITS FALSE NEIGHBOUR: 'it returns false'. Refute it at one input. -/
def fnPacketUnitsWrong : ChangeSpec := { name := "fnPacketUnits", fn := fun _ => fun
  | [d1, d2] => { results := [.lit (.bool false)], args := [d1, d2] }
  | _ => none }
def FnPacketUnitsWrongFalsely : Prop := fnPacketUnitsRow.holds Tryd.pinned (OpenSpec.ofChange fnPacketUnitsWrong)

/-- 'laws.FnPacketMarker': WHATEVER THE INPUT: true; the input reads as it did. -/
def fnPacketMarkerSpec : ChangeSpec := { name := "fnPacketMarker", fn := fun _ => fun
  | [d1, d2] => { results := [.lit (.bool true)], args := [d1, d2] }
  | _ => none }
def fnPacketMarkerRow : OpenClaim := { program := "ytpacjdlgnoiheaadoor", sum := "0f129c6e2b5d61314adb8f80cd074233a81e918b720a5d6466f33059ca2b316b", func := "pub-dodona/laws.FnPacketMarker", spec := "fnPacketMarker", named := ["encoding/binary.BigEndian", "bytes.ErrTooLarge"], apart := false, laid := [("bytes.ErrTooLarge", laid_bytes_ErrTooLarge)] }
def FnPacketMarkerSaid : Prop := fnPacketMarkerRow.holds Tryd.pinned (OpenSpec.ofChange fnPacketMarkerSpec)

/-- ITS FALSE NEIGHBOUR: 'it returns false'. Refute it at one input. -/
def fnPacketMarkerWrong : ChangeSpec := { name := "fnPacketMarker", fn := fun _ => fun
  | [d1, d2] => { results := [.lit (.bool false)], args := [d1, d2] }
  | _ => none }
def FnPacketMarkerWrongFalsely : Prop := fnPacketMarkerRow.holds Tryd.pinned (OpenSpec.ofChange fnPacketMarkerWrong)

/-- 'laws.FnPacketMarks': WHATEVER THE INPUT: true; the input reads as it did. -/
def fnPacketMarksSpec : ChangeSpec := { name := "fnPacketMarks", fn := fun _ => fun
  | [d1, d2] => { results := [.lit (.bool true)], args := [d1, d2] }
  | _ => none }
def fnPacketMarksRow : OpenClaim := { program := "ytpacjdlgnoiheaadoor", sum := "0f129c6e2b5d61314adb8f80cd074233a81e918b720a5d6466f33059ca2b316b", func := "pub-dodona/laws.FnPacketMarks", spec := "fnPacketMarks", named := ["encoding/binary.BigEndian", "bytes.ErrTooLarge"], apart := false, laid := [("bytes.ErrTooLarge", laid_bytes_ErrTooLarge)] }
def FnPacketMarksSaid : Prop := fnPacketMarksRow.holds Tryd.pinned (OpenSpec.ofChange fnPacketMarksSpec)

/-- ITS FALSE NEIGHBOUR: 'it returns false'. Refute it at one input. -/
def fnPacketMarksWrong : ChangeSpec := { name := "fnPacketMarks", fn := fun _ => fun
  | [d1, d2] => { results := [.lit (.bool false)], args := [d1, d2] }
  | _ => none }
def FnPacketMarksWrongFalsely : Prop := fnPacketMarksRow.holds Tryd.pinned (OpenSpec.ofChange fnPacketMarksWrong)

/- THE SECOND FORM. 'bulk': how many values and letters a reading holds, each counted each time it is reached (what is shared counts as often as it is met; a slice's spare places count too). A statement '..UptoSaid' is the law's where the arguments, and the package variables that the reading takes, are together of bulk at most 1048576: NARROWER than '..Said'. Prove '..Said' where nothing that the law and all that it calls make is longer than what came in: it says more and counts as full. Else prove '..UptoSaid'. A law counts once. -/
mutual
def uptoBulk {H : Type} : DataW H → Nat
  | .lit (.string bytes) => bytes.length + 1
  | .lit _ => 1
  | .nil => 1
  | .ptr d => uptoBulk d + 1
  | .slice elems spare => uptoBulkAll elems + uptoBulkAll spare + 1
  | .agg parts => uptoBulkAll parts + 1
  | .iface _ d => uptoBulk d + 1
  | .map entries => uptoBulkEntries entries + 1
  | .held _ => 1
def uptoBulkAll {H : Type} : List (DataW H) → Nat
  | [] => 0
  | d :: r => uptoBulk d + uptoBulkAll r
def uptoBulkEntries {H : Type} : List (Lit × DataW H) → Nat
  | [] => 0
  | x :: r => uptoBulkEntry x + uptoBulkEntries r
def uptoBulkEntry {H : Type} : Lit × DataW H → Nat
  | (.string bytes, d) => bytes.length + uptoBulk d + 1
  | (_, d) => uptoBulk d + 1
 end
def uptoSmall : (H : Type) → List (DataW H) → Bool := fun _ ds => decide (uptoBulkAll ds ≤ 1048576)
def OpenSpec.upto (s : _root_.Go.ChangeSpec) : _root_.Go.OpenSpec := { _root_.Go.OpenSpec.ofChange s with cond := some uptoSmall }

/-- 'laws.FnPacketRefuse', WHERE WHAT IT READS IS OF BULK AT MOST 1048576: true; the input reads as it did. -/
def fnPacketRefuseUptoRow : OpenClaim := { program := "ytpacjdlgnoiheaadoor", sum := "0f129c6e2b5d61314adb8f80cd074233a81e918b720a5d6466f33059ca2b316b", func := "pub-dodona/laws.FnPacketRefuse", spec := "fnPacketRefuse", named := ["encoding/binary.BigEndian", "bytes.ErrTooLarge"], apart := false, laid := [("bytes.ErrTooLarge", laid_bytes_ErrTooLarge)], narrowed := true }
def FnPacketRefuseUptoSaid : Prop := fnPacketRefuseUptoRow.holds Tryd.pinned (OpenSpec.upto fnPacketRefuseSpec)

/-- 'laws.FnPacketDataRead', WHERE WHAT IT READS IS OF BULK AT MOST 1048576: true; the input reads as it did. -/
def fnPacketDataReadUptoRow : OpenClaim := { program := "ytpacjdlgnoiheaadoor", sum := "0f129c6e2b5d61314adb8f80cd074233a81e918b720a5d6466f33059ca2b316b", func := "pub-dodona/laws.FnPacketDataRead", spec := "fnPacketDataRead", named := ["encoding/binary.BigEndian", "bytes.ErrTooLarge"], apart := false, laid := [("bytes.ErrTooLarge", laid_bytes_ErrTooLarge)], narrowed := true }
def FnPacketDataReadUptoSaid : Prop := fnPacketDataReadUptoRow.holds Tryd.pinned (OpenSpec.upto fnPacketDataReadSpec)

/-- 'laws.FnPacketStream', WHERE WHAT IT READS IS OF BULK AT MOST 1048576: true; the input reads as it did. -/
def fnPacketStreamUptoRow : OpenClaim := { program := "ytpacjdlgnoiheaadoor", sum := "0f129c6e2b5d61314adb8f80cd074233a81e918b720a5d6466f33059ca2b316b", func := "pub-dodona/laws.FnPacketStream", spec := "fnPacketStream", named := ["encoding/binary.BigEndian", "bytes.ErrTooLarge"], apart := false, laid := [("bytes.ErrTooLarge", laid_bytes_ErrTooLarge)], narrowed := true }
def FnPacketStreamUptoSaid : Prop := fnPacketStreamUptoRow.holds Tryd.pinned (OpenSpec.upto fnPacketStreamSpec)

/-- 'laws.FnPacketUnits', WHERE WHAT IT READS IS OF BULK AT MOST 1048576: true; the input reads as it did. -/
def fnPacketUnitsUptoRow : OpenClaim := { program := "ytpacjdlgnoiheaadoor", sum := "0f129c6e2b5d61314adb8f80cd074233a81e918b720a5d6466f33059ca2b316b", func := "pub-dodona/laws.FnPacketUnits", spec := "fnPacketUnits", named := ["encoding/binary.BigEndian", "bytes.ErrTooLarge"], apart := false, laid := [("bytes.ErrTooLarge", laid_bytes_ErrTooLarge)], narrowed := true }
def FnPacketUnitsUptoSaid : Prop := fnPacketUnitsUptoRow.holds Tryd.pinned (OpenSpec.upto fnPacketUnitsSpec)

/-- 'laws.FnPacketMarker', WHERE WHAT IT READS IS OF BULK AT MOST 1048576: true; the input reads as it did. -/
def fnPacketMarkerUptoRow : OpenClaim := { program := "ytpacjdlgnoiheaadoor", sum := "0f129c6e2b5d61314adb8f80cd074233a81e918b720a5d6466f33059ca2b316b", func := "pub-dodona/laws.FnPacketMarker", spec := "fnPacketMarker", named := ["encoding/binary.BigEndian", "bytes.ErrTooLarge"], apart := false, laid := [("bytes.ErrTooLarge", laid_bytes_ErrTooLarge)], narrowed := true }
def FnPacketMarkerUptoSaid : Prop := fnPacketMarkerUptoRow.holds Tryd.pinned (OpenSpec.upto fnPacketMarkerSpec)

/-- 'laws.FnPacketMarks', WHERE WHAT IT READS IS OF BULK AT MOST 1048576: true; the input reads as it did. -/
def fnPacketMarksUptoRow : OpenClaim := { program := "ytpacjdlgnoiheaadoor", sum := "0f129c6e2b5d61314adb8f80cd074233a81e918b720a5d6466f33059ca2b316b", func := "pub-dodona/laws.FnPacketMarks", spec := "fnPacketMarks", named := ["encoding/binary.BigEndian", "bytes.ErrTooLarge"], apart := false, laid := [("bytes.ErrTooLarge", laid_bytes_ErrTooLarge)], narrowed := true }
def FnPacketMarksUptoSaid : Prop := fnPacketMarksUptoRow.holds Tryd.pinned (OpenSpec.upto fnPacketMarksSpec)

end Rows
end Go.Proofs.YtpacjdlgnoiheaaDoor
