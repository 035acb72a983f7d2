/-
  DERIVED. GIVEN WITH THE SEED: THE CARDS: each row of YtinggdcfhlbahaaDoorRows.lean that lists a variable, with what it lists TIED to the program's text (the seventh form; the later family's looks); each row that meets fmt, with fmt's text TOLD by the authors' own Lean function (tested against real Go, not proved from fmt's source: count such statements apart). THE CARD IS WHAT COUNTS. Prove the row's statement (the work); the ties are given (YtinggdcfhlbahaaDoorTie.lean); close each card by the builder's one call (the guide's Derived/Test/ToyasCard.lean, 'card_holds'). Laid BY PROGRAM, IN A SANDBOX (cutbox-door.mjs). By AI agents, Wed Nov 11 2026. No macro, syntax, notation, axiom, sorry.
-/
import Derived.Test.YtinggdcfhlbahaaDoorRows
import GoSem.ClaimSeven
namespace Go.Proofs.YtinggdcfhlbahaaDoor
namespace Rows

/-- THE TIED CARD OF 'laws.FnIntervalCut'. -/
def fnIntervalCutCard : Claim7 := { stood := { row := fnIntervalCutRow, standIns := [], harness := (true, "501d659ea512b049b18b77a1ce8592e1783223965106abc05d78f17c23e995d9"), looks := false }, kinds := [], alts := [], laidByText := true, laidKinds := [.data, .data, .data], laidTests := true, laidLooks := .later }
def FnIntervalCutCardSaid : Prop := Claim7.holds Tryd.pinned (.plain (OpenSpec.ofChange fnIntervalCutSpec)) fnIntervalCutCard

/-- THE TIED CARD OF 'laws.FnIntervalSign'. -/
def fnIntervalSignCard : Claim7 := { stood := { row := fnIntervalSignRow, standIns := [], harness := (true, "501d659ea512b049b18b77a1ce8592e1783223965106abc05d78f17c23e995d9"), looks := false }, kinds := [], alts := [], laidByText := true, laidKinds := [.data, .data, .data], laidTests := true, laidLooks := .later }
def FnIntervalSignCardSaid : Prop := Claim7.holds Tryd.pinned (.plain (OpenSpec.ofChange fnIntervalSignSpec)) fnIntervalSignCard

/-- THE SECOND FORM's CARD OF 'laws.FnIntervalCut'. -/
def fnIntervalCutUptoCard : Claim7 := { stood := { row := fnIntervalCutUptoRow, standIns := [], harness := (true, "501d659ea512b049b18b77a1ce8592e1783223965106abc05d78f17c23e995d9"), looks := false }, kinds := [], alts := [], laidByText := true, laidKinds := [.data, .data, .data], laidTests := true, laidLooks := .later }
def FnIntervalCutUptoCardSaid : Prop := Claim7.holds Tryd.pinned (.plain (OpenSpec.upto fnIntervalCutSpec)) fnIntervalCutUptoCard

/-- THE SECOND FORM's CARD OF 'laws.FnIntervalSign'. -/
def fnIntervalSignUptoCard : Claim7 := { stood := { row := fnIntervalSignUptoRow, standIns := [], harness := (true, "501d659ea512b049b18b77a1ce8592e1783223965106abc05d78f17c23e995d9"), looks := false }, kinds := [], alts := [], laidByText := true, laidKinds := [.data, .data, .data], laidTests := true, laidLooks := .later }
def FnIntervalSignUptoCardSaid : Prop := Claim7.holds Tryd.pinned (.plain (OpenSpec.upto fnIntervalSignSpec)) fnIntervalSignUptoCard
end Rows
end Go.Proofs.YtinggdcfhlbahaaDoor
