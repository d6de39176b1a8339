/-
  DERIVED. GIVEN WITH THE SEED: THE CARDS: each row of YtdejcdmgcckmoaaGreatDoorRows.lean that lists a variable, with what it lists TIED to the program's text (the seventh form; the later family's looks); each row that meets fmt, with fmt's text TOLD by the authors' own Lean function (tested against real Go, not proved from fmt's source: count such statements apart). THE CARD IS WHAT COUNTS. Prove the row's statement (the work); the ties are given (YtdejcdmgcckmoaaGreatDoorTie.lean); close each card by the builder's one call (the guide's Derived/Test/ToyasCard.lean, 'card_holds'). Laid BY PROGRAM, IN A SANDBOX (cutbox-door.mjs). By AI agents, Wed Nov 11 2026. No macro, syntax, notation, axiom, sorry.
-/
import Derived.Test.YtdejcdmgcckmoaaGreatDoorRows
import GoSem.ClaimSeven
namespace Go.Proofs.YtdejcdmgcckmoaaGreatDoor
namespace Rows

/-- THE TIED CARD OF 'laws.FnSymbols'. -/
def fnSymbolsCard : Claim7 := { stood := { row := fnSymbolsRow, standIns := [], harness := (true, "22ae15929fb23fc5009d7449bfd8458b9cc66fae05254a90b958c374334e0127"), looks := true }, kinds := [], alts := [], laidByText := true, laidKinds := [.data, .data, .data, .data, .pinned, .pinned, .pinned, .pinned, .pinned, .pinned], laidTests := true, laidLooks := .later }
def FnSymbolsCardSaid : Prop := Claim7.holds Tryz.pinned (.plain (OpenSpec.ofChange fnSymbolsSpec)) fnSymbolsCard

/-- THE TIED CARD OF 'laws.FnFirst'. -/
def fnFirstCard : Claim7 := { stood := { row := fnFirstRow, standIns := [], harness := (true, "22ae15929fb23fc5009d7449bfd8458b9cc66fae05254a90b958c374334e0127"), looks := true }, kinds := [], alts := [], laidByText := true, laidKinds := [.data, .data, .data, .data, .pinned, .pinned, .pinned, .pinned, .pinned, .pinned], laidTests := true, laidLooks := .later }
def FnFirstCardSaid : Prop := Claim7.holds Tryz.pinned (.plain (OpenSpec.ofChange fnFirstSpec)) fnFirstCard

/-- THE TIED CARD OF 'laws.FnStates'. -/
def fnStatesCard : Claim7 := { stood := { row := fnStatesRow, standIns := [], harness := (true, "22ae15929fb23fc5009d7449bfd8458b9cc66fae05254a90b958c374334e0127"), looks := true }, kinds := [], alts := [], laidByText := true, laidKinds := [.data, .data, .data, .data, .pinned, .pinned, .pinned, .pinned, .pinned, .pinned], laidTests := true, laidLooks := .later }
def FnStatesCardSaid : Prop := Claim7.holds Tryz.pinned (.plain (OpenSpec.ofChange fnStatesSpec)) fnStatesCard

/-- THE TIED CARD OF 'laws.FnAccepts'. -/
def fnAcceptsCard : Claim7 := { stood := { row := fnAcceptsRow, standIns := [], harness := (true, "22ae15929fb23fc5009d7449bfd8458b9cc66fae05254a90b958c374334e0127"), looks := true }, kinds := [], alts := [], laidByText := true, laidKinds := [.data, .data, .data, .data, .pinned, .pinned, .pinned, .pinned, .pinned, .pinned], laidTests := true, laidLooks := .later }
def FnAcceptsCardSaid : Prop := Claim7.holds Tryz.pinned (.plain (OpenSpec.ofChange fnAcceptsSpec)) fnAcceptsCard

/-- THE TIED CARD OF 'laws.FnReduced'. -/
def fnReducedCard : Claim7 := { stood := { row := fnReducedRow, standIns := [], harness := (true, "22ae15929fb23fc5009d7449bfd8458b9cc66fae05254a90b958c374334e0127"), looks := true }, kinds := [], alts := [], laidByText := true, laidKinds := [.data, .data, .data, .data, .pinned, .pinned, .pinned, .pinned, .pinned, .pinned], laidTests := true, laidLooks := .later }
def FnReducedCardSaid : Prop := Claim7.holds Tryz.pinned (.plain (OpenSpec.ofChange fnReducedSpec)) fnReducedCard

/-- THE TIED CARD OF 'laws.FnClashes'. -/
def fnClashesCard : Claim7 := { stood := { row := fnClashesRow, standIns := [], harness := (true, "22ae15929fb23fc5009d7449bfd8458b9cc66fae05254a90b958c374334e0127"), looks := true }, kinds := [], alts := [], laidByText := true, laidKinds := [.data, .data, .data, .data, .pinned, .pinned, .pinned, .pinned, .pinned, .pinned], laidTests := true, laidLooks := .later }
def FnClashesCardSaid : Prop := Claim7.holds Tryz.pinned (.plain (OpenSpec.ofChange fnClashesSpec)) fnClashesCard

/-- THE TIED CARD OF 'laws.FnResolved'. -/
def fnResolvedCard : Claim7 := { stood := { row := fnResolvedRow, standIns := [], harness := (true, "22ae15929fb23fc5009d7449bfd8458b9cc66fae05254a90b958c374334e0127"), looks := true }, kinds := [], alts := [], laidByText := true, laidKinds := [.data, .data, .data, .data, .pinned, .pinned, .pinned, .pinned, .pinned, .pinned], laidTests := true, laidLooks := .later }
def FnResolvedCardSaid : Prop := Claim7.holds Tryz.pinned (.plain (OpenSpec.ofChange fnResolvedSpec)) fnResolvedCard

/-- THE TIED CARD OF 'laws.FnTable'. -/
def fnTableCard : Claim7 := { stood := { row := fnTableRow, standIns := [], harness := (true, "22ae15929fb23fc5009d7449bfd8458b9cc66fae05254a90b958c374334e0127"), looks := true }, kinds := [], alts := [], laidByText := true, laidKinds := [.data, .data, .data, .data, .pinned, .pinned, .pinned, .pinned, .pinned, .pinned], laidTests := true, laidLooks := .later }
def FnTableCardSaid : Prop := Claim7.holds Tryz.pinned (.plain (OpenSpec.ofChange fnTableSpec)) fnTableCard

/-- THE SECOND FORM's CARD OF 'laws.FnSymbols'. -/
def fnSymbolsUptoCard : Claim7 := { stood := { row := fnSymbolsUptoRow, standIns := [], harness := (true, "22ae15929fb23fc5009d7449bfd8458b9cc66fae05254a90b958c374334e0127"), looks := true }, kinds := [], alts := [], laidByText := true, laidKinds := [.data, .data, .data, .data, .pinned, .pinned, .pinned, .pinned, .pinned, .pinned], laidTests := true, laidLooks := .later }
def FnSymbolsUptoCardSaid : Prop := Claim7.holds Tryz.pinned (.plain (OpenSpec.upto fnSymbolsSpec)) fnSymbolsUptoCard

/-- THE SECOND FORM's CARD OF 'laws.FnFirst'. -/
def fnFirstUptoCard : Claim7 := { stood := { row := fnFirstUptoRow, standIns := [], harness := (true, "22ae15929fb23fc5009d7449bfd8458b9cc66fae05254a90b958c374334e0127"), looks := true }, kinds := [], alts := [], laidByText := true, laidKinds := [.data, .data, .data, .data, .pinned, .pinned, .pinned, .pinned, .pinned, .pinned], laidTests := true, laidLooks := .later }
def FnFirstUptoCardSaid : Prop := Claim7.holds Tryz.pinned (.plain (OpenSpec.upto fnFirstSpec)) fnFirstUptoCard

/-- THE SECOND FORM's CARD OF 'laws.FnStates'. -/
def fnStatesUptoCard : Claim7 := { stood := { row := fnStatesUptoRow, standIns := [], harness := (true, "22ae15929fb23fc5009d7449bfd8458b9cc66fae05254a90b958c374334e0127"), looks := true }, kinds := [], alts := [], laidByText := true, laidKinds := [.data, .data, .data, .data, .pinned, .pinned, .pinned, .pinned, .pinned, .pinned], laidTests := true, laidLooks := .later }
def FnStatesUptoCardSaid : Prop := Claim7.holds Tryz.pinned (.plain (OpenSpec.upto fnStatesSpec)) fnStatesUptoCard

/-- THE SECOND FORM's CARD OF 'laws.FnAccepts'. -/
def fnAcceptsUptoCard : Claim7 := { stood := { row := fnAcceptsUptoRow, standIns := [], harness := (true, "22ae15929fb23fc5009d7449bfd8458b9cc66fae05254a90b958c374334e0127"), looks := true }, kinds := [], alts := [], laidByText := true, laidKinds := [.data, .data, .data, .data, .pinned, .pinned, .pinned, .pinned, .pinned, .pinned], laidTests := true, laidLooks := .later }
def FnAcceptsUptoCardSaid : Prop := Claim7.holds Tryz.pinned (.plain (OpenSpec.upto fnAcceptsSpec)) fnAcceptsUptoCard

/-- THE SECOND FORM's CARD OF 'laws.FnReduced'. -/
def fnReducedUptoCard : Claim7 := { stood := { row := fnReducedUptoRow, standIns := [], harness := (true, "22ae15929fb23fc5009d7449bfd8458b9cc66fae05254a90b958c374334e0127"), looks := true }, kinds := [], alts := [], laidByText := true, laidKinds := [.data, .data, .data, .data, .pinned, .pinned, .pinned, .pinned, .pinned, .pinned], laidTests := true, laidLooks := .later }
def FnReducedUptoCardSaid : Prop := Claim7.holds Tryz.pinned (.plain (OpenSpec.upto fnReducedSpec)) fnReducedUptoCard

/-- THE SECOND FORM's CARD OF 'laws.FnClashes'. -/
def fnClashesUptoCard : Claim7 := { stood := { row := fnClashesUptoRow, standIns := [], harness := (true, "22ae15929fb23fc5009d7449bfd8458b9cc66fae05254a90b958c374334e0127"), looks := true }, kinds := [], alts := [], laidByText := true, laidKinds := [.data, .data, .data, .data, .pinned, .pinned, .pinned, .pinned, .pinned, .pinned], laidTests := true, laidLooks := .later }
def FnClashesUptoCardSaid : Prop := Claim7.holds Tryz.pinned (.plain (OpenSpec.upto fnClashesSpec)) fnClashesUptoCard

/-- THE SECOND FORM's CARD OF 'laws.FnResolved'. -/
def fnResolvedUptoCard : Claim7 := { stood := { row := fnResolvedUptoRow, standIns := [], harness := (true, "22ae15929fb23fc5009d7449bfd8458b9cc66fae05254a90b958c374334e0127"), looks := true }, kinds := [], alts := [], laidByText := true, laidKinds := [.data, .data, .data, .data, .pinned, .pinned, .pinned, .pinned, .pinned, .pinned], laidTests := true, laidLooks := .later }
def FnResolvedUptoCardSaid : Prop := Claim7.holds Tryz.pinned (.plain (OpenSpec.upto fnResolvedSpec)) fnResolvedUptoCard

/-- THE SECOND FORM's CARD OF 'laws.FnTable'. -/
def fnTableUptoCard : Claim7 := { stood := { row := fnTableUptoRow, standIns := [], harness := (true, "22ae15929fb23fc5009d7449bfd8458b9cc66fae05254a90b958c374334e0127"), looks := true }, kinds := [], alts := [], laidByText := true, laidKinds := [.data, .data, .data, .data, .pinned, .pinned, .pinned, .pinned, .pinned, .pinned], laidTests := true, laidLooks := .later }
def FnTableUptoCardSaid : Prop := Claim7.holds Tryz.pinned (.plain (OpenSpec.upto fnTableSpec)) fnTableUptoCard
end Rows
end Go.Proofs.YtdejcdmgcckmoaaGreatDoor
