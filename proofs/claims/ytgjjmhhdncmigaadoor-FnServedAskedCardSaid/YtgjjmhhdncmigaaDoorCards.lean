/-
  DERIVED. GIVEN WITH THE SEED: THE CARDS: each row of YtgjjmhhdncmigaaDoorRows.lean that lists a variable, with what it lists TIED to the program's text (the seventh form; the later family's looks); each row that meets fmt, with fmt's text TOLD by the authors' own Lean function (tested against real Go, not proved from fmt's source: count such statements apart). THE CARD IS WHAT COUNTS. Prove the row's statement (the work); the ties are given (YtgjjmhhdncmigaaDoorTie.lean); close each card by the builder's one call (the guide's Derived/Test/ToyasCard.lean, 'card_holds'). Laid BY PROGRAM, IN A SANDBOX (cutbox-door.mjs). By AI agents, Wed Nov 11 2026. No macro, syntax, notation, axiom, sorry.
-/
import Derived.Test.YtgjjmhhdncmigaaDoorRows
import GoSem.ClaimSeven
namespace Go.Proofs.YtgjjmhhdncmigaaDoor
namespace Rows

/-- THE TIED CARD OF 'laws.FnServedAsked'. -/
def fnServedAskedCard : Claim7 := { stood := { row := fnServedAskedRow, standIns := [], harness := (true, "a4e5148111b59d74d628ebe7b8ccff2ab2b867d267c8cda1c80ad835dc0eecee"), looks := false }, kinds := [], alts := [], laidByText := true, laidKinds := [.data, .data, .data, .pinned, .pinned], laidTests := true, laidLooks := .later }
def FnServedAskedCardSaid : Prop := Claim7.holds Tryd.pinned (.plain (OpenSpec.ofChange fnServedAskedSpec)) fnServedAskedCard

/-- THE TIED CARD OF 'laws.FnServedSteps'. -/
def fnServedStepsCard : Claim7 := { stood := { row := fnServedStepsRow, standIns := [], harness := (true, "a4e5148111b59d74d628ebe7b8ccff2ab2b867d267c8cda1c80ad835dc0eecee"), looks := false }, kinds := [], alts := [], laidByText := true, laidKinds := [.data, .data, .data, .pinned, .pinned], laidTests := true, laidLooks := .later }
def FnServedStepsCardSaid : Prop := Claim7.holds Tryd.pinned (.plain (OpenSpec.ofChange fnServedStepsSpec)) fnServedStepsCard

/-- THE SECOND FORM's CARD OF 'laws.FnServedAsked'. -/
def fnServedAskedUptoCard : Claim7 := { stood := { row := fnServedAskedUptoRow, standIns := [], harness := (true, "a4e5148111b59d74d628ebe7b8ccff2ab2b867d267c8cda1c80ad835dc0eecee"), looks := false }, kinds := [], alts := [], laidByText := true, laidKinds := [.data, .data, .data, .pinned, .pinned], laidTests := true, laidLooks := .later }
def FnServedAskedUptoCardSaid : Prop := Claim7.holds Tryd.pinned (.plain (OpenSpec.upto fnServedAskedSpec)) fnServedAskedUptoCard

/-- THE SECOND FORM's CARD OF 'laws.FnServedSteps'. -/
def fnServedStepsUptoCard : Claim7 := { stood := { row := fnServedStepsUptoRow, standIns := [], harness := (true, "a4e5148111b59d74d628ebe7b8ccff2ab2b867d267c8cda1c80ad835dc0eecee"), looks := false }, kinds := [], alts := [], laidByText := true, laidKinds := [.data, .data, .data, .pinned, .pinned], laidTests := true, laidLooks := .later }
def FnServedStepsUptoCardSaid : Prop := Claim7.holds Tryd.pinned (.plain (OpenSpec.upto fnServedStepsSpec)) fnServedStepsUptoCard
end Rows
end Go.Proofs.YtgjjmhhdncmigaaDoor
