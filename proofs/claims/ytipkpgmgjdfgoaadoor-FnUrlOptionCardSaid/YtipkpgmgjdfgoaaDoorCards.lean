/-
  DERIVED. GIVEN WITH THE SEED: THE CARDS: each row of YtipkpgmgjdfgoaaDoorRows.lean that lists a variable, with what it lists TIED to the program's text (the seventh form; the later family's looks); each row that meets fmt, with fmt's text TOLD by the authors' own Lean function (tested against real Go, not proved from fmt's source: count such statements apart). THE CARD IS WHAT COUNTS. Prove the row's statement (the work); the ties are given (YtipkpgmgjdfgoaaDoorTie.lean); close each card by the builder's one call (the guide's Derived/Test/ToyasCard.lean, 'card_holds'). Laid BY PROGRAM, IN A SANDBOX (cutbox-door.mjs). By AI agents, Wed Nov 11 2026. No macro, syntax, notation, axiom, sorry.
-/
import Derived.Test.YtipkpgmgjdfgoaaDoorRows
import GoSem.ClaimSeven
namespace Go.Proofs.YtipkpgmgjdfgoaaDoor
namespace Rows

/-- THE TIED CARD OF 'laws.FnServedAsked'. -/
def fnServedAskedCard : Claim7 := { stood := { row := fnServedAskedRow, standIns := [], harness := (true, "8701c01fa1d916c6fc1bab4824611225a024149ba085feeb1b802c5725525210"), looks := false }, kinds := [], alts := [], laidByText := true, laidKinds := [.data, .data, .data, .pinned, .pinned], laidTests := true, laidLooks := .later }
def FnServedAskedCardSaid : Prop := Claim7.holds Tryd.pinned (.plain (OpenSpec.ofChange fnServedAskedSpec)) fnServedAskedCard

/-- THE TIED CARD OF 'laws.FnServedSteps'. -/
def fnServedStepsCard : Claim7 := { stood := { row := fnServedStepsRow, standIns := [], harness := (true, "8701c01fa1d916c6fc1bab4824611225a024149ba085feeb1b802c5725525210"), looks := false }, kinds := [], alts := [], laidByText := true, laidKinds := [.data, .data, .data, .pinned, .pinned], laidTests := true, laidLooks := .later }
def FnServedStepsCardSaid : Prop := Claim7.holds Tryd.pinned (.plain (OpenSpec.ofChange fnServedStepsSpec)) fnServedStepsCard

/-- THE TIED CARD OF 'laws.FnPrivilege'. -/
def fnPrivilegeCard : Claim7 := { stood := { row := fnPrivilegeRow, standIns := [], harness := (true, "8701c01fa1d916c6fc1bab4824611225a024149ba085feeb1b802c5725525210"), looks := false }, kinds := [], alts := [], laidByText := true, laidKinds := [.data, .data, .data, .data, .pinned, .pinned], laidTests := true, laidLooks := .later }
def FnPrivilegeCardSaid : Prop := Claim7.holds Tryd.pinned (.plain (OpenSpec.ofChange fnPrivilegeSpec)) fnPrivilegeCard

/-- THE TIED CARD OF 'laws.FnPrivilegeBits'. -/
def fnPrivilegeBitsCard : Claim7 := { stood := { row := fnPrivilegeBitsRow, standIns := [], harness := (true, "8701c01fa1d916c6fc1bab4824611225a024149ba085feeb1b802c5725525210"), looks := false }, kinds := [], alts := [], laidByText := true, laidKinds := [.data, .data, .data, .data, .pinned, .pinned], laidTests := true, laidLooks := .later }
def FnPrivilegeBitsCardSaid : Prop := Claim7.holds Tryd.pinned (.plain (OpenSpec.ofChange fnPrivilegeBitsSpec)) fnPrivilegeBitsCard

/-- THE TIED CARD OF 'laws.FnServerNetwork'. -/
def fnServerNetworkCard : Claim7 := { stood := { row := fnServerNetworkRow, standIns := [], harness := (true, "8701c01fa1d916c6fc1bab4824611225a024149ba085feeb1b802c5725525210"), looks := false }, kinds := [], alts := [], laidByText := true, laidKinds := [.data, .data, .data, .data, .pinned, .pinned], laidTests := true, laidLooks := .later }
def FnServerNetworkCardSaid : Prop := Claim7.holds Tryd.pinned (.plain (OpenSpec.ofChange fnServerNetworkSpec)) fnServerNetworkCard

/-- THE TIED CARD OF 'laws.FnUrlClean'. -/
def fnUrlCleanCard : Claim7 := { stood := { row := fnUrlCleanRow, standIns := [], harness := (true, "8701c01fa1d916c6fc1bab4824611225a024149ba085feeb1b802c5725525210"), looks := false }, kinds := [], alts := [], laidByText := true, laidKinds := [.data, .data, .data, .data, .listed, .data, .data, .pinned, .pinned], laidTests := true, laidLooks := .later }
def FnUrlCleanCardSaid : Prop := Claim7.holds Tryd.pinned (.plain (OpenSpec.ofChange fnUrlCleanSpec)) fnUrlCleanCard

/-- THE TIED CARD OF 'laws.FnUrlPlain'. -/
def fnUrlPlainCard : Claim7 := { stood := { row := fnUrlPlainRow, standIns := [], harness := (true, "8701c01fa1d916c6fc1bab4824611225a024149ba085feeb1b802c5725525210"), looks := false }, kinds := [], alts := [], laidByText := true, laidKinds := [.data, .data, .data, .data, .listed, .data, .data, .pinned, .pinned], laidTests := true, laidLooks := .later }
def FnUrlPlainCardSaid : Prop := Claim7.holds Tryd.pinned (.plain (OpenSpec.ofChange fnUrlPlainSpec)) fnUrlPlainCard

/-- THE TIED CARD OF 'laws.FnUrlOption'. -/
def fnUrlOptionCard : Claim7 := { stood := { row := fnUrlOptionRow, standIns := [], harness := (true, "8701c01fa1d916c6fc1bab4824611225a024149ba085feeb1b802c5725525210"), looks := false }, kinds := [], alts := [], laidByText := true, laidKinds := [.data, .data, .data, .data, .listed, .data, .data, .pinned, .pinned], laidTests := true, laidLooks := .later }
def FnUrlOptionCardSaid : Prop := Claim7.holds Tryd.pinned (.plain (OpenSpec.ofChange fnUrlOptionSpec)) fnUrlOptionCard

/-- THE SECOND FORM's CARD OF 'laws.FnServedAsked'. -/
def fnServedAskedUptoCard : Claim7 := { stood := { row := fnServedAskedUptoRow, standIns := [], harness := (true, "8701c01fa1d916c6fc1bab4824611225a024149ba085feeb1b802c5725525210"), looks := false }, kinds := [], alts := [], laidByText := true, laidKinds := [.data, .data, .data, .pinned, .pinned], laidTests := true, laidLooks := .later }
def FnServedAskedUptoCardSaid : Prop := Claim7.holds Tryd.pinned (.plain (OpenSpec.upto fnServedAskedSpec)) fnServedAskedUptoCard

/-- THE SECOND FORM's CARD OF 'laws.FnServedSteps'. -/
def fnServedStepsUptoCard : Claim7 := { stood := { row := fnServedStepsUptoRow, standIns := [], harness := (true, "8701c01fa1d916c6fc1bab4824611225a024149ba085feeb1b802c5725525210"), looks := false }, kinds := [], alts := [], laidByText := true, laidKinds := [.data, .data, .data, .pinned, .pinned], laidTests := true, laidLooks := .later }
def FnServedStepsUptoCardSaid : Prop := Claim7.holds Tryd.pinned (.plain (OpenSpec.upto fnServedStepsSpec)) fnServedStepsUptoCard

/-- THE SECOND FORM's CARD OF 'laws.FnPrivilege'. -/
def fnPrivilegeUptoCard : Claim7 := { stood := { row := fnPrivilegeUptoRow, standIns := [], harness := (true, "8701c01fa1d916c6fc1bab4824611225a024149ba085feeb1b802c5725525210"), looks := false }, kinds := [], alts := [], laidByText := true, laidKinds := [.data, .data, .data, .data, .pinned, .pinned], laidTests := true, laidLooks := .later }
def FnPrivilegeUptoCardSaid : Prop := Claim7.holds Tryd.pinned (.plain (OpenSpec.upto fnPrivilegeSpec)) fnPrivilegeUptoCard

/-- THE SECOND FORM's CARD OF 'laws.FnPrivilegeBits'. -/
def fnPrivilegeBitsUptoCard : Claim7 := { stood := { row := fnPrivilegeBitsUptoRow, standIns := [], harness := (true, "8701c01fa1d916c6fc1bab4824611225a024149ba085feeb1b802c5725525210"), looks := false }, kinds := [], alts := [], laidByText := true, laidKinds := [.data, .data, .data, .data, .pinned, .pinned], laidTests := true, laidLooks := .later }
def FnPrivilegeBitsUptoCardSaid : Prop := Claim7.holds Tryd.pinned (.plain (OpenSpec.upto fnPrivilegeBitsSpec)) fnPrivilegeBitsUptoCard

/-- THE SECOND FORM's CARD OF 'laws.FnServerNetwork'. -/
def fnServerNetworkUptoCard : Claim7 := { stood := { row := fnServerNetworkUptoRow, standIns := [], harness := (true, "8701c01fa1d916c6fc1bab4824611225a024149ba085feeb1b802c5725525210"), looks := false }, kinds := [], alts := [], laidByText := true, laidKinds := [.data, .data, .data, .data, .pinned, .pinned], laidTests := true, laidLooks := .later }
def FnServerNetworkUptoCardSaid : Prop := Claim7.holds Tryd.pinned (.plain (OpenSpec.upto fnServerNetworkSpec)) fnServerNetworkUptoCard

/-- THE SECOND FORM's CARD OF 'laws.FnUrlClean'. -/
def fnUrlCleanUptoCard : Claim7 := { stood := { row := fnUrlCleanUptoRow, standIns := [], harness := (true, "8701c01fa1d916c6fc1bab4824611225a024149ba085feeb1b802c5725525210"), looks := false }, kinds := [], alts := [], laidByText := true, laidKinds := [.data, .data, .data, .data, .listed, .data, .data, .pinned, .pinned], laidTests := true, laidLooks := .later }
def FnUrlCleanUptoCardSaid : Prop := Claim7.holds Tryd.pinned (.plain (OpenSpec.upto fnUrlCleanSpec)) fnUrlCleanUptoCard

/-- THE SECOND FORM's CARD OF 'laws.FnUrlPlain'. -/
def fnUrlPlainUptoCard : Claim7 := { stood := { row := fnUrlPlainUptoRow, standIns := [], harness := (true, "8701c01fa1d916c6fc1bab4824611225a024149ba085feeb1b802c5725525210"), looks := false }, kinds := [], alts := [], laidByText := true, laidKinds := [.data, .data, .data, .data, .listed, .data, .data, .pinned, .pinned], laidTests := true, laidLooks := .later }
def FnUrlPlainUptoCardSaid : Prop := Claim7.holds Tryd.pinned (.plain (OpenSpec.upto fnUrlPlainSpec)) fnUrlPlainUptoCard

/-- THE SECOND FORM's CARD OF 'laws.FnUrlOption'. -/
def fnUrlOptionUptoCard : Claim7 := { stood := { row := fnUrlOptionUptoRow, standIns := [], harness := (true, "8701c01fa1d916c6fc1bab4824611225a024149ba085feeb1b802c5725525210"), looks := false }, kinds := [], alts := [], laidByText := true, laidKinds := [.data, .data, .data, .data, .listed, .data, .data, .pinned, .pinned], laidTests := true, laidLooks := .later }
def FnUrlOptionUptoCardSaid : Prop := Claim7.holds Tryd.pinned (.plain (OpenSpec.upto fnUrlOptionSpec)) fnUrlOptionUptoCard
end Rows
end Go.Proofs.YtipkpgmgjdfgoaaDoor
