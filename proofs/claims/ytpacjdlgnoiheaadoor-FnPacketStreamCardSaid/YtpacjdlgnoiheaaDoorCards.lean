/-
  DERIVED. GIVEN WITH THE SEED: THE CARDS: each row of YtpacjdlgnoiheaaDoorRows.lean that lists a variable, with what it lists TIED to the program's text (the seventh form; the later family's looks); each row that meets fmt, with fmt's text TOLD by the authors' own Lean function (tested against real Go, not proved from fmt's source: count such statements apart). THE CARD IS WHAT COUNTS. Prove the row's statement (the work); the ties are given (YtpacjdlgnoiheaaDoorTie.lean); close each card by the builder's one call (the guide's Derived/Test/ToyasCard.lean, 'card_holds'). Laid BY PROGRAM, IN A SANDBOX (cutbox-door.mjs). By AI agents, Wed Nov 11 2026. No macro, syntax, notation, axiom, sorry.
-/
import Derived.Test.YtpacjdlgnoiheaaDoorRows
import GoSem.ClaimSeven
namespace Go.Proofs.YtpacjdlgnoiheaaDoor
namespace Rows

/-- THE TIED CARD OF 'laws.FnPacketRefuse'. -/
def fnPacketRefuseCard : Claim7 := { stood := { row := fnPacketRefuseRow, standIns := [], harness := (true, "9635b18c3ddda70227c7e324953f23773600a54838d24a1e46e08afed8c3f6d7"), looks := false }, kinds := [], alts := [], laidByText := true, laidKinds := [.sentinel], laidTests := true, laidLooks := .later }
def FnPacketRefuseCardSaid : Prop := Claim7.holds Tryd.pinned (.plain (OpenSpec.ofChange fnPacketRefuseSpec)) fnPacketRefuseCard

/-- THE TIED CARD OF 'laws.FnPacketDataRead'. -/
def fnPacketDataReadCard : Claim7 := { stood := { row := fnPacketDataReadRow, standIns := [], harness := (true, "9635b18c3ddda70227c7e324953f23773600a54838d24a1e46e08afed8c3f6d7"), looks := false }, kinds := [], alts := [], laidByText := true, laidKinds := [.sentinel], laidTests := true, laidLooks := .later }
def FnPacketDataReadCardSaid : Prop := Claim7.holds Tryd.pinned (.plain (OpenSpec.ofChange fnPacketDataReadSpec)) fnPacketDataReadCard

/-- THE TIED CARD OF 'laws.FnPacketStream'. -/
def fnPacketStreamCard : Claim7 := { stood := { row := fnPacketStreamRow, standIns := [], harness := (true, "9635b18c3ddda70227c7e324953f23773600a54838d24a1e46e08afed8c3f6d7"), looks := false }, kinds := [], alts := [], laidByText := true, laidKinds := [.sentinel], laidTests := true, laidLooks := .later }
def FnPacketStreamCardSaid : Prop := Claim7.holds Tryd.pinned (.plain (OpenSpec.ofChange fnPacketStreamSpec)) fnPacketStreamCard

/-- THE TIED CARD OF 'laws.FnPacketUnits'. -/
def fnPacketUnitsCard : Claim7 := { stood := { row := fnPacketUnitsRow, standIns := [], harness := (true, "9635b18c3ddda70227c7e324953f23773600a54838d24a1e46e08afed8c3f6d7"), looks := false }, kinds := [], alts := [], laidByText := true, laidKinds := [.sentinel], laidTests := true, laidLooks := .later }
def FnPacketUnitsCardSaid : Prop := Claim7.holds Tryd.pinned (.plain (OpenSpec.ofChange fnPacketUnitsSpec)) fnPacketUnitsCard

/-- THE TIED CARD OF 'laws.FnPacketMarker'. -/
def fnPacketMarkerCard : Claim7 := { stood := { row := fnPacketMarkerRow, standIns := [], harness := (true, "9635b18c3ddda70227c7e324953f23773600a54838d24a1e46e08afed8c3f6d7"), looks := false }, kinds := [], alts := [], laidByText := true, laidKinds := [.sentinel], laidTests := true, laidLooks := .later }
def FnPacketMarkerCardSaid : Prop := Claim7.holds Tryd.pinned (.plain (OpenSpec.ofChange fnPacketMarkerSpec)) fnPacketMarkerCard

/-- THE TIED CARD OF 'laws.FnPacketMarks'. -/
def fnPacketMarksCard : Claim7 := { stood := { row := fnPacketMarksRow, standIns := [], harness := (true, "9635b18c3ddda70227c7e324953f23773600a54838d24a1e46e08afed8c3f6d7"), looks := false }, kinds := [], alts := [], laidByText := true, laidKinds := [.sentinel], laidTests := true, laidLooks := .later }
def FnPacketMarksCardSaid : Prop := Claim7.holds Tryd.pinned (.plain (OpenSpec.ofChange fnPacketMarksSpec)) fnPacketMarksCard

/-- THE SECOND FORM's CARD OF 'laws.FnPacketRefuse'. -/
def fnPacketRefuseUptoCard : Claim7 := { stood := { row := fnPacketRefuseUptoRow, standIns := [], harness := (true, "9635b18c3ddda70227c7e324953f23773600a54838d24a1e46e08afed8c3f6d7"), looks := false }, kinds := [], alts := [], laidByText := true, laidKinds := [.sentinel], laidTests := true, laidLooks := .later }
def FnPacketRefuseUptoCardSaid : Prop := Claim7.holds Tryd.pinned (.plain (OpenSpec.upto fnPacketRefuseSpec)) fnPacketRefuseUptoCard

/-- THE SECOND FORM's CARD OF 'laws.FnPacketDataRead'. -/
def fnPacketDataReadUptoCard : Claim7 := { stood := { row := fnPacketDataReadUptoRow, standIns := [], harness := (true, "9635b18c3ddda70227c7e324953f23773600a54838d24a1e46e08afed8c3f6d7"), looks := false }, kinds := [], alts := [], laidByText := true, laidKinds := [.sentinel], laidTests := true, laidLooks := .later }
def FnPacketDataReadUptoCardSaid : Prop := Claim7.holds Tryd.pinned (.plain (OpenSpec.upto fnPacketDataReadSpec)) fnPacketDataReadUptoCard

/-- THE SECOND FORM's CARD OF 'laws.FnPacketStream'. -/
def fnPacketStreamUptoCard : Claim7 := { stood := { row := fnPacketStreamUptoRow, standIns := [], harness := (true, "9635b18c3ddda70227c7e324953f23773600a54838d24a1e46e08afed8c3f6d7"), looks := false }, kinds := [], alts := [], laidByText := true, laidKinds := [.sentinel], laidTests := true, laidLooks := .later }
def FnPacketStreamUptoCardSaid : Prop := Claim7.holds Tryd.pinned (.plain (OpenSpec.upto fnPacketStreamSpec)) fnPacketStreamUptoCard

/-- THE SECOND FORM's CARD OF 'laws.FnPacketUnits'. -/
def fnPacketUnitsUptoCard : Claim7 := { stood := { row := fnPacketUnitsUptoRow, standIns := [], harness := (true, "9635b18c3ddda70227c7e324953f23773600a54838d24a1e46e08afed8c3f6d7"), looks := false }, kinds := [], alts := [], laidByText := true, laidKinds := [.sentinel], laidTests := true, laidLooks := .later }
def FnPacketUnitsUptoCardSaid : Prop := Claim7.holds Tryd.pinned (.plain (OpenSpec.upto fnPacketUnitsSpec)) fnPacketUnitsUptoCard

/-- THE SECOND FORM's CARD OF 'laws.FnPacketMarker'. -/
def fnPacketMarkerUptoCard : Claim7 := { stood := { row := fnPacketMarkerUptoRow, standIns := [], harness := (true, "9635b18c3ddda70227c7e324953f23773600a54838d24a1e46e08afed8c3f6d7"), looks := false }, kinds := [], alts := [], laidByText := true, laidKinds := [.sentinel], laidTests := true, laidLooks := .later }
def FnPacketMarkerUptoCardSaid : Prop := Claim7.holds Tryd.pinned (.plain (OpenSpec.upto fnPacketMarkerSpec)) fnPacketMarkerUptoCard

/-- THE SECOND FORM's CARD OF 'laws.FnPacketMarks'. -/
def fnPacketMarksUptoCard : Claim7 := { stood := { row := fnPacketMarksUptoRow, standIns := [], harness := (true, "9635b18c3ddda70227c7e324953f23773600a54838d24a1e46e08afed8c3f6d7"), looks := false }, kinds := [], alts := [], laidByText := true, laidKinds := [.sentinel], laidTests := true, laidLooks := .later }
def FnPacketMarksUptoCardSaid : Prop := Claim7.holds Tryd.pinned (.plain (OpenSpec.upto fnPacketMarksSpec)) fnPacketMarksUptoCard
end Rows
end Go.Proofs.YtpacjdlgnoiheaaDoor
