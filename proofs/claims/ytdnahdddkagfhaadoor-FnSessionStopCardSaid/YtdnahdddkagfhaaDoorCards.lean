/-
  DERIVED. GIVEN WITH THE SEED: THE CARDS: each row of YtdnahdddkagfhaaDoorRows.lean that lists a variable, with what it lists TIED to the program's text (the seventh form; the later family's looks); each row that meets fmt, with fmt's text TOLD by the authors' own Lean function (tested against real Go, not proved from fmt's source: count such statements apart). THE CARD IS WHAT COUNTS. Prove the row's statement (the work); the ties are given (YtdnahdddkagfhaaDoorTie.lean); close each card by the builder's one call (the guide's Derived/Test/ToyasCard.lean, 'card_holds'). Laid BY PROGRAM, IN A SANDBOX (cutbox-door.mjs). By AI agents, Wed Nov 11 2026. No macro, syntax, notation, axiom, sorry.
-/
import Derived.Test.YtdnahdddkagfhaaDoorRows
import GoSem.ClaimSeven
namespace Go.Proofs.YtdnahdddkagfhaaDoor
namespace Rows

/-- THE TIED CARD OF 'laws.FnSessionClr'. -/
def fnSessionClrCard : Claim7 := { stood := { row := fnSessionClrRow, standIns := [], harness := (true, "31c6d681296a672452a318e7d2f4ea8aaffef362dd0846f13b9c49c0c6a1d2aa"), looks := true }, kinds := [], alts := [], laidByText := true, laidKinds := [.sentinel, .sentinel], laidTests := true, laidLooks := .later }
def FnSessionClrCardSaid : Prop := Claim7.holds Tryd.pinned (.plain (OpenSpec.ofChange fnSessionClrSpec)) fnSessionClrCard

/-- THE TIED CARD OF 'laws.FnSessionNone'. -/
def fnSessionNoneCard : Claim7 := { stood := { row := fnSessionNoneRow, standIns := [], harness := (true, "31c6d681296a672452a318e7d2f4ea8aaffef362dd0846f13b9c49c0c6a1d2aa"), looks := true }, kinds := [], alts := [], laidByText := true, laidKinds := [.sentinel, .sentinel], laidTests := true, laidLooks := .later }
def FnSessionNoneCardSaid : Prop := Claim7.holds Tryd.pinned (.plain (OpenSpec.ofChange fnSessionNoneSpec)) fnSessionNoneCard

/-- THE TIED CARD OF 'laws.FnSessionPacked'. -/
def fnSessionPackedCard : Claim7 := { stood := { row := fnSessionPackedRow, standIns := [], harness := (true, "31c6d681296a672452a318e7d2f4ea8aaffef362dd0846f13b9c49c0c6a1d2aa"), looks := true }, kinds := [], alts := [], laidByText := true, laidKinds := [.sentinel, .sentinel], laidTests := true, laidLooks := .later }
def FnSessionPackedCardSaid : Prop := Claim7.holds Tryd.pinned (.plain (OpenSpec.ofChange fnSessionPackedSpec)) fnSessionPackedCard

/-- THE TIED CARD OF 'laws.FnSessionMinus'. -/
def fnSessionMinusCard : Claim7 := { stood := { row := fnSessionMinusRow, standIns := [], harness := (true, "31c6d681296a672452a318e7d2f4ea8aaffef362dd0846f13b9c49c0c6a1d2aa"), looks := true }, kinds := [], alts := [], laidByText := true, laidKinds := [.sentinel, .sentinel], laidTests := true, laidLooks := .later }
def FnSessionMinusCardSaid : Prop := Claim7.holds Tryd.pinned (.plain (OpenSpec.ofChange fnSessionMinusSpec)) fnSessionMinusCard

/-- THE TIED CARD OF 'laws.FnSessionTurned'. -/
def fnSessionTurnedCard : Claim7 := { stood := { row := fnSessionTurnedRow, standIns := [], harness := (true, "31c6d681296a672452a318e7d2f4ea8aaffef362dd0846f13b9c49c0c6a1d2aa"), looks := true }, kinds := [], alts := [], laidByText := true, laidKinds := [.sentinel, .sentinel], laidTests := true, laidLooks := .later }
def FnSessionTurnedCardSaid : Prop := Claim7.holds Tryd.pinned (.plain (OpenSpec.ofChange fnSessionTurnedSpec)) fnSessionTurnedCard

/-- THE TIED CARD OF 'laws.FnSessionStop'. -/
def fnSessionStopCard : Claim7 := { stood := { row := fnSessionStopRow, standIns := [], harness := (true, "31c6d681296a672452a318e7d2f4ea8aaffef362dd0846f13b9c49c0c6a1d2aa"), looks := true }, kinds := [], alts := [], laidByText := true, laidKinds := [.sentinel, .sentinel], laidTests := true, laidLooks := .later }
def FnSessionStopCardSaid : Prop := Claim7.holds Tryd.pinned (.plain (OpenSpec.ofChange fnSessionStopSpec)) fnSessionStopCard

/-- THE TIED CARD OF 'laws.FnSessionTorn'. -/
def fnSessionTornCard : Claim7 := { stood := { row := fnSessionTornRow, standIns := [], harness := (true, "31c6d681296a672452a318e7d2f4ea8aaffef362dd0846f13b9c49c0c6a1d2aa"), looks := true }, kinds := [], alts := [], laidByText := true, laidKinds := [.sentinel, .sentinel], laidTests := true, laidLooks := .later }
def FnSessionTornCardSaid : Prop := Claim7.holds Tryd.pinned (.plain (OpenSpec.ofChange fnSessionTornSpec)) fnSessionTornCard

/-- THE TIED CARD OF 'laws.FnSessionDlc'. -/
def fnSessionDlcCard : Claim7 := { stood := { row := fnSessionDlcRow, standIns := [], harness := (true, "31c6d681296a672452a318e7d2f4ea8aaffef362dd0846f13b9c49c0c6a1d2aa"), looks := true }, kinds := [], alts := [], laidByText := true, laidKinds := [.sentinel, .sentinel], laidTests := true, laidLooks := .later }
def FnSessionDlcCardSaid : Prop := Claim7.holds Tryd.pinned (.plain (OpenSpec.ofChange fnSessionDlcSpec)) fnSessionDlcCard

/-- THE TIED CARD OF 'laws.FnSessionMinusBack'. -/
def fnSessionMinusBackCard : Claim7 := { stood := { row := fnSessionMinusBackRow, standIns := [], harness := (true, "31c6d681296a672452a318e7d2f4ea8aaffef362dd0846f13b9c49c0c6a1d2aa"), looks := true }, kinds := [], alts := [], laidByText := true, laidKinds := [.sentinel, .sentinel], laidTests := true, laidLooks := .later }
def FnSessionMinusBackCardSaid : Prop := Claim7.holds Tryd.pinned (.plain (OpenSpec.ofChange fnSessionMinusBackSpec)) fnSessionMinusBackCard

/-- THE TIED CARD OF 'laws.FnSessionApart'. -/
def fnSessionApartCard : Claim7 := { stood := { row := fnSessionApartRow, standIns := [], harness := (true, "31c6d681296a672452a318e7d2f4ea8aaffef362dd0846f13b9c49c0c6a1d2aa"), looks := true }, kinds := [], alts := [], laidByText := true, laidKinds := [.sentinel, .sentinel], laidTests := true, laidLooks := .later }
def FnSessionApartCardSaid : Prop := Claim7.holds Tryd.pinned (.plain (OpenSpec.ofChange fnSessionApartSpec)) fnSessionApartCard

/-- THE TIED CARD OF 'laws.FnSessionPut'. -/
def fnSessionPutCard : Claim7 := { stood := { row := fnSessionPutRow, standIns := [], harness := (true, "31c6d681296a672452a318e7d2f4ea8aaffef362dd0846f13b9c49c0c6a1d2aa"), looks := true }, kinds := [], alts := [], laidByText := true, laidKinds := [.sentinel, .sentinel], laidTests := true, laidLooks := .later }
def FnSessionPutCardSaid : Prop := Claim7.holds Tryd.pinned (.plain (OpenSpec.ofChange fnSessionPutSpec)) fnSessionPutCard

/-- THE SECOND FORM's CARD OF 'laws.FnSessionClr'. -/
def fnSessionClrUptoCard : Claim7 := { stood := { row := fnSessionClrUptoRow, standIns := [], harness := (true, "31c6d681296a672452a318e7d2f4ea8aaffef362dd0846f13b9c49c0c6a1d2aa"), looks := true }, kinds := [], alts := [], laidByText := true, laidKinds := [.sentinel, .sentinel], laidTests := true, laidLooks := .later }
def FnSessionClrUptoCardSaid : Prop := Claim7.holds Tryd.pinned (.plain (OpenSpec.upto fnSessionClrSpec)) fnSessionClrUptoCard

/-- THE SECOND FORM's CARD OF 'laws.FnSessionNone'. -/
def fnSessionNoneUptoCard : Claim7 := { stood := { row := fnSessionNoneUptoRow, standIns := [], harness := (true, "31c6d681296a672452a318e7d2f4ea8aaffef362dd0846f13b9c49c0c6a1d2aa"), looks := true }, kinds := [], alts := [], laidByText := true, laidKinds := [.sentinel, .sentinel], laidTests := true, laidLooks := .later }
def FnSessionNoneUptoCardSaid : Prop := Claim7.holds Tryd.pinned (.plain (OpenSpec.upto fnSessionNoneSpec)) fnSessionNoneUptoCard

/-- THE SECOND FORM's CARD OF 'laws.FnSessionPacked'. -/
def fnSessionPackedUptoCard : Claim7 := { stood := { row := fnSessionPackedUptoRow, standIns := [], harness := (true, "31c6d681296a672452a318e7d2f4ea8aaffef362dd0846f13b9c49c0c6a1d2aa"), looks := true }, kinds := [], alts := [], laidByText := true, laidKinds := [.sentinel, .sentinel], laidTests := true, laidLooks := .later }
def FnSessionPackedUptoCardSaid : Prop := Claim7.holds Tryd.pinned (.plain (OpenSpec.upto fnSessionPackedSpec)) fnSessionPackedUptoCard

/-- THE SECOND FORM's CARD OF 'laws.FnSessionMinus'. -/
def fnSessionMinusUptoCard : Claim7 := { stood := { row := fnSessionMinusUptoRow, standIns := [], harness := (true, "31c6d681296a672452a318e7d2f4ea8aaffef362dd0846f13b9c49c0c6a1d2aa"), looks := true }, kinds := [], alts := [], laidByText := true, laidKinds := [.sentinel, .sentinel], laidTests := true, laidLooks := .later }
def FnSessionMinusUptoCardSaid : Prop := Claim7.holds Tryd.pinned (.plain (OpenSpec.upto fnSessionMinusSpec)) fnSessionMinusUptoCard

/-- THE SECOND FORM's CARD OF 'laws.FnSessionTurned'. -/
def fnSessionTurnedUptoCard : Claim7 := { stood := { row := fnSessionTurnedUptoRow, standIns := [], harness := (true, "31c6d681296a672452a318e7d2f4ea8aaffef362dd0846f13b9c49c0c6a1d2aa"), looks := true }, kinds := [], alts := [], laidByText := true, laidKinds := [.sentinel, .sentinel], laidTests := true, laidLooks := .later }
def FnSessionTurnedUptoCardSaid : Prop := Claim7.holds Tryd.pinned (.plain (OpenSpec.upto fnSessionTurnedSpec)) fnSessionTurnedUptoCard

/-- THE SECOND FORM's CARD OF 'laws.FnSessionStop'. -/
def fnSessionStopUptoCard : Claim7 := { stood := { row := fnSessionStopUptoRow, standIns := [], harness := (true, "31c6d681296a672452a318e7d2f4ea8aaffef362dd0846f13b9c49c0c6a1d2aa"), looks := true }, kinds := [], alts := [], laidByText := true, laidKinds := [.sentinel, .sentinel], laidTests := true, laidLooks := .later }
def FnSessionStopUptoCardSaid : Prop := Claim7.holds Tryd.pinned (.plain (OpenSpec.upto fnSessionStopSpec)) fnSessionStopUptoCard

/-- THE SECOND FORM's CARD OF 'laws.FnSessionTorn'. -/
def fnSessionTornUptoCard : Claim7 := { stood := { row := fnSessionTornUptoRow, standIns := [], harness := (true, "31c6d681296a672452a318e7d2f4ea8aaffef362dd0846f13b9c49c0c6a1d2aa"), looks := true }, kinds := [], alts := [], laidByText := true, laidKinds := [.sentinel, .sentinel], laidTests := true, laidLooks := .later }
def FnSessionTornUptoCardSaid : Prop := Claim7.holds Tryd.pinned (.plain (OpenSpec.upto fnSessionTornSpec)) fnSessionTornUptoCard

/-- THE SECOND FORM's CARD OF 'laws.FnSessionDlc'. -/
def fnSessionDlcUptoCard : Claim7 := { stood := { row := fnSessionDlcUptoRow, standIns := [], harness := (true, "31c6d681296a672452a318e7d2f4ea8aaffef362dd0846f13b9c49c0c6a1d2aa"), looks := true }, kinds := [], alts := [], laidByText := true, laidKinds := [.sentinel, .sentinel], laidTests := true, laidLooks := .later }
def FnSessionDlcUptoCardSaid : Prop := Claim7.holds Tryd.pinned (.plain (OpenSpec.upto fnSessionDlcSpec)) fnSessionDlcUptoCard

/-- THE SECOND FORM's CARD OF 'laws.FnSessionMinusBack'. -/
def fnSessionMinusBackUptoCard : Claim7 := { stood := { row := fnSessionMinusBackUptoRow, standIns := [], harness := (true, "31c6d681296a672452a318e7d2f4ea8aaffef362dd0846f13b9c49c0c6a1d2aa"), looks := true }, kinds := [], alts := [], laidByText := true, laidKinds := [.sentinel, .sentinel], laidTests := true, laidLooks := .later }
def FnSessionMinusBackUptoCardSaid : Prop := Claim7.holds Tryd.pinned (.plain (OpenSpec.upto fnSessionMinusBackSpec)) fnSessionMinusBackUptoCard

/-- THE SECOND FORM's CARD OF 'laws.FnSessionApart'. -/
def fnSessionApartUptoCard : Claim7 := { stood := { row := fnSessionApartUptoRow, standIns := [], harness := (true, "31c6d681296a672452a318e7d2f4ea8aaffef362dd0846f13b9c49c0c6a1d2aa"), looks := true }, kinds := [], alts := [], laidByText := true, laidKinds := [.sentinel, .sentinel], laidTests := true, laidLooks := .later }
def FnSessionApartUptoCardSaid : Prop := Claim7.holds Tryd.pinned (.plain (OpenSpec.upto fnSessionApartSpec)) fnSessionApartUptoCard

/-- THE SECOND FORM's CARD OF 'laws.FnSessionPut'. -/
def fnSessionPutUptoCard : Claim7 := { stood := { row := fnSessionPutUptoRow, standIns := [], harness := (true, "31c6d681296a672452a318e7d2f4ea8aaffef362dd0846f13b9c49c0c6a1d2aa"), looks := true }, kinds := [], alts := [], laidByText := true, laidKinds := [.sentinel, .sentinel], laidTests := true, laidLooks := .later }
def FnSessionPutUptoCardSaid : Prop := Claim7.holds Tryd.pinned (.plain (OpenSpec.upto fnSessionPutSpec)) fnSessionPutUptoCard
end Rows
end Go.Proofs.YtdnahdddkagfhaaDoor
