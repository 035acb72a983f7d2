/-
  DERIVED. GIVEN WITH THE SEED: THE CARDS: each row of YtepooaejlofkkaaDoorRows.lean that lists a variable, with what it lists TIED to the program's text (the seventh form; the later family's looks); each row that meets fmt, with fmt's text TOLD by the authors' own Lean function (tested against real Go, not proved from fmt's source: count such statements apart). THE CARD IS WHAT COUNTS. Prove the row's statement (the work); the ties are given (YtepooaejlofkkaaDoorTie.lean); close each card by the builder's one call (the guide's Derived/Test/ToyasCard.lean, 'card_holds'). Laid BY PROGRAM, IN A SANDBOX (cutbox-door.mjs). By AI agents, Wed Nov 11 2026. No macro, syntax, notation, axiom, sorry.
-/
import Derived.Test.YtepooaejlofkkaaDoorRows
import GoSem.ClaimSeven
namespace Go.Proofs.YtepooaejlofkkaaDoor
namespace Rows

/-- THE TIED CARD OF 'laws.FnNumberLength'. -/
def fnNumberLengthCard : Claim7 := { stood := { row := fnNumberLengthRow, standIns := [], harness := (true, "fe3bd4830ef460730e5c93d50de078fbd6d66f29a15c78269bd23fe4751add7a"), looks := false }, kinds := [], alts := [], laidByText := true, laidKinds := [.data, .data, .data], laidTests := true, laidLooks := .later }
def FnNumberLengthCardSaid : Prop := Claim7.holds Tryd.pinned (.plain (OpenSpec.ofChange fnNumberLengthSpec)) fnNumberLengthCard

/-- THE TIED CARD OF 'laws.FnNumberMade'. -/
def fnNumberMadeCard : Claim7 := { stood := { row := fnNumberMadeRow, standIns := [], harness := (true, "fe3bd4830ef460730e5c93d50de078fbd6d66f29a15c78269bd23fe4751add7a"), looks := false }, kinds := [], alts := [], laidByText := true, laidKinds := [.data, .data, .data], laidTests := true, laidLooks := .later }
def FnNumberMadeCardSaid : Prop := Claim7.holds Tryd.pinned (.plain (OpenSpec.ofChange fnNumberMadeSpec)) fnNumberMadeCard

/-- THE TIED CARD OF 'laws.FnNumberDecimals'. -/
def fnNumberDecimalsCard : Claim7 := { stood := { row := fnNumberDecimalsRow, standIns := [], harness := (true, "fe3bd4830ef460730e5c93d50de078fbd6d66f29a15c78269bd23fe4751add7a"), looks := false }, kinds := [], alts := [], laidByText := true, laidKinds := [.data, .data, .data], laidTests := true, laidLooks := .later }
def FnNumberDecimalsCardSaid : Prop := Claim7.holds Tryd.pinned (.plain (OpenSpec.ofChange fnNumberDecimalsSpec)) fnNumberDecimalsCard

/-- THE TIED CARD OF 'laws.FnNumberMoney'. -/
def fnNumberMoneyCard : Claim7 := { stood := { row := fnNumberMoneyRow, standIns := [], harness := (true, "fe3bd4830ef460730e5c93d50de078fbd6d66f29a15c78269bd23fe4751add7a"), looks := false }, kinds := [], alts := [], laidByText := true, laidKinds := [.data, .data, .data], laidTests := true, laidLooks := .later }
def FnNumberMoneyCardSaid : Prop := Claim7.holds Tryd.pinned (.plain (OpenSpec.ofChange fnNumberMoneySpec)) fnNumberMoneyCard

/-- THE TIED CARD OF 'laws.FnNumberPadded'. -/
def fnNumberPaddedCard : Claim7 := { stood := { row := fnNumberPaddedRow, standIns := [], harness := (true, "fe3bd4830ef460730e5c93d50de078fbd6d66f29a15c78269bd23fe4751add7a"), looks := false }, kinds := [], alts := [], laidByText := true, laidKinds := [.data, .data, .data], laidTests := true, laidLooks := .later }
def FnNumberPaddedCardSaid : Prop := Claim7.holds Tryd.pinned (.plain (OpenSpec.ofChange fnNumberPaddedSpec)) fnNumberPaddedCard

/-- THE TIED CARD OF 'laws.FnNumberCompared'. -/
def fnNumberComparedCard : Claim7 := { stood := { row := fnNumberComparedRow, standIns := [], harness := (true, "fe3bd4830ef460730e5c93d50de078fbd6d66f29a15c78269bd23fe4751add7a"), looks := false }, kinds := [], alts := [], laidByText := true, laidKinds := [.data, .data, .data], laidTests := true, laidLooks := .later }
def FnNumberComparedCardSaid : Prop := Claim7.holds Tryd.pinned (.plain (OpenSpec.ofChange fnNumberComparedSpec)) fnNumberComparedCard

/-- THE TIED CARD OF 'laws.FnNumberUint64'. -/
def fnNumberUint64Card : Claim7 := { stood := { row := fnNumberUint64Row, standIns := [], harness := (true, "fe3bd4830ef460730e5c93d50de078fbd6d66f29a15c78269bd23fe4751add7a"), looks := false }, kinds := [], alts := [], laidByText := true, laidKinds := [.data, .data, .data], laidTests := true, laidLooks := .later }
def FnNumberUint64CardSaid : Prop := Claim7.holds Tryd.pinned (.plain (OpenSpec.ofChange fnNumberUint64Spec)) fnNumberUint64Card

/-- THE SECOND FORM's CARD OF 'laws.FnNumberLength'. -/
def fnNumberLengthUptoCard : Claim7 := { stood := { row := fnNumberLengthUptoRow, standIns := [], harness := (true, "fe3bd4830ef460730e5c93d50de078fbd6d66f29a15c78269bd23fe4751add7a"), looks := false }, kinds := [], alts := [], laidByText := true, laidKinds := [.data, .data, .data], laidTests := true, laidLooks := .later }
def FnNumberLengthUptoCardSaid : Prop := Claim7.holds Tryd.pinned (.plain (OpenSpec.upto fnNumberLengthSpec)) fnNumberLengthUptoCard

/-- THE SECOND FORM's CARD OF 'laws.FnNumberMade'. -/
def fnNumberMadeUptoCard : Claim7 := { stood := { row := fnNumberMadeUptoRow, standIns := [], harness := (true, "fe3bd4830ef460730e5c93d50de078fbd6d66f29a15c78269bd23fe4751add7a"), looks := false }, kinds := [], alts := [], laidByText := true, laidKinds := [.data, .data, .data], laidTests := true, laidLooks := .later }
def FnNumberMadeUptoCardSaid : Prop := Claim7.holds Tryd.pinned (.plain (OpenSpec.upto fnNumberMadeSpec)) fnNumberMadeUptoCard

/-- THE SECOND FORM's CARD OF 'laws.FnNumberDecimals'. -/
def fnNumberDecimalsUptoCard : Claim7 := { stood := { row := fnNumberDecimalsUptoRow, standIns := [], harness := (true, "fe3bd4830ef460730e5c93d50de078fbd6d66f29a15c78269bd23fe4751add7a"), looks := false }, kinds := [], alts := [], laidByText := true, laidKinds := [.data, .data, .data], laidTests := true, laidLooks := .later }
def FnNumberDecimalsUptoCardSaid : Prop := Claim7.holds Tryd.pinned (.plain (OpenSpec.upto fnNumberDecimalsSpec)) fnNumberDecimalsUptoCard

/-- THE SECOND FORM's CARD OF 'laws.FnNumberMoney'. -/
def fnNumberMoneyUptoCard : Claim7 := { stood := { row := fnNumberMoneyUptoRow, standIns := [], harness := (true, "fe3bd4830ef460730e5c93d50de078fbd6d66f29a15c78269bd23fe4751add7a"), looks := false }, kinds := [], alts := [], laidByText := true, laidKinds := [.data, .data, .data], laidTests := true, laidLooks := .later }
def FnNumberMoneyUptoCardSaid : Prop := Claim7.holds Tryd.pinned (.plain (OpenSpec.upto fnNumberMoneySpec)) fnNumberMoneyUptoCard

/-- THE SECOND FORM's CARD OF 'laws.FnNumberPadded'. -/
def fnNumberPaddedUptoCard : Claim7 := { stood := { row := fnNumberPaddedUptoRow, standIns := [], harness := (true, "fe3bd4830ef460730e5c93d50de078fbd6d66f29a15c78269bd23fe4751add7a"), looks := false }, kinds := [], alts := [], laidByText := true, laidKinds := [.data, .data, .data], laidTests := true, laidLooks := .later }
def FnNumberPaddedUptoCardSaid : Prop := Claim7.holds Tryd.pinned (.plain (OpenSpec.upto fnNumberPaddedSpec)) fnNumberPaddedUptoCard

/-- THE SECOND FORM's CARD OF 'laws.FnNumberCompared'. -/
def fnNumberComparedUptoCard : Claim7 := { stood := { row := fnNumberComparedUptoRow, standIns := [], harness := (true, "fe3bd4830ef460730e5c93d50de078fbd6d66f29a15c78269bd23fe4751add7a"), looks := false }, kinds := [], alts := [], laidByText := true, laidKinds := [.data, .data, .data], laidTests := true, laidLooks := .later }
def FnNumberComparedUptoCardSaid : Prop := Claim7.holds Tryd.pinned (.plain (OpenSpec.upto fnNumberComparedSpec)) fnNumberComparedUptoCard

/-- THE SECOND FORM's CARD OF 'laws.FnNumberUint64'. -/
def fnNumberUint64UptoCard : Claim7 := { stood := { row := fnNumberUint64UptoRow, standIns := [], harness := (true, "fe3bd4830ef460730e5c93d50de078fbd6d66f29a15c78269bd23fe4751add7a"), looks := false }, kinds := [], alts := [], laidByText := true, laidKinds := [.data, .data, .data], laidTests := true, laidLooks := .later }
def FnNumberUint64UptoCardSaid : Prop := Claim7.holds Tryd.pinned (.plain (OpenSpec.upto fnNumberUint64Spec)) fnNumberUint64UptoCard
end Rows
end Go.Proofs.YtepooaejlofkkaaDoor
