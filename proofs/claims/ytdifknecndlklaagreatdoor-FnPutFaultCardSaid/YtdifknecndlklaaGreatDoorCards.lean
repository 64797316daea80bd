/-
  DERIVED. GIVEN WITH THE SEED: THE CARDS: each row of YtdifknecndlklaaGreatDoorRows.lean that lists a variable, with what it lists TIED to the program's text (the seventh form; the later family's looks); each row that meets fmt, with fmt's text TOLD by the authors' own Lean function (tested against real Go, not proved from fmt's source: count such statements apart). THE CARD IS WHAT COUNTS. Prove the row's statement (the work); the ties are given (YtdifknecndlklaaGreatDoorTie.lean); close each card by the builder's one call (the guide's Derived/Test/ToyasCard.lean, 'card_holds'). Laid BY PROGRAM, IN A SANDBOX (cutbox-door.mjs). By AI agents, Wed Nov 11 2026. No macro, syntax, notation, axiom, sorry.
-/
import Derived.Test.YtdifknecndlklaaGreatDoorRows
import GoSem.ClaimSeven
namespace Go.Proofs.YtdifknecndlklaaGreatDoor
namespace Rows

/-- THE TIED CARD OF 'laws.FnPutFault'. -/
def fnPutFaultCard : Claim7 := { stood := { row := fnPutFaultRow, standIns := [], harness := (true, "d2fb2d53b44f5a84cc70a768777382f99f2e3858045d63f38ff39b759202e9b3"), looks := true }, kinds := [], alts := [], laidByText := true, laidKinds := [.sentinel, .sentinel, .sentinel], laidTests := true, laidLooks := .later }
def FnPutFaultCardSaid : Prop := Claim7.holds Tryz.pinned (.plain (OpenSpec.ofChange fnPutFaultSpec)) fnPutFaultCard

/-- THE TIED CARD OF 'laws.FnSerial'. -/
def fnSerialCard : Claim7 := { stood := { row := fnSerialRow, standIns := [], harness := (true, "d2fb2d53b44f5a84cc70a768777382f99f2e3858045d63f38ff39b759202e9b3"), looks := true }, kinds := [], alts := [], laidByText := true, laidKinds := [.sentinel, .sentinel, .sentinel], laidTests := true, laidLooks := .later }
def FnSerialCardSaid : Prop := Claim7.holds Tryz.pinned (.plain (OpenSpec.ofChange fnSerialSpec)) fnSerialCard

/-- THE TIED CARD OF 'laws.FnApart'. -/
def fnApartCard : Claim7 := { stood := { row := fnApartRow, standIns := [], harness := (true, "d2fb2d53b44f5a84cc70a768777382f99f2e3858045d63f38ff39b759202e9b3"), looks := true }, kinds := [], alts := [], laidByText := true, laidKinds := [.sentinel, .sentinel, .sentinel], laidTests := true, laidLooks := .later }
def FnApartCardSaid : Prop := Claim7.holds Tryz.pinned (.plain (OpenSpec.ofChange fnApartSpec)) fnApartCard

/-- THE TIED CARD OF 'laws.FnBinaryMessages'. -/
def fnBinaryMessagesCard : Claim7 := { stood := { row := fnBinaryMessagesRow, standIns := [], harness := (true, "d2fb2d53b44f5a84cc70a768777382f99f2e3858045d63f38ff39b759202e9b3"), looks := true }, kinds := [], alts := [], laidByText := true, laidKinds := [.sentinel, .sentinel, .sentinel], laidTests := true, laidLooks := .later }
def FnBinaryMessagesCardSaid : Prop := Claim7.holds Tryz.pinned (.plain (OpenSpec.ofChange fnBinaryMessagesSpec)) fnBinaryMessagesCard

/-- THE TIED CARD OF 'laws.FnLimitLists'. -/
def fnLimitListsCard : Claim7 := { stood := { row := fnLimitListsRow, standIns := [], harness := (true, "d2fb2d53b44f5a84cc70a768777382f99f2e3858045d63f38ff39b759202e9b3"), looks := true }, kinds := [], alts := [], laidByText := true, laidKinds := [.sentinel, .sentinel, .sentinel], laidTests := true, laidLooks := .later }
def FnLimitListsCardSaid : Prop := Claim7.holds Tryz.pinned (.plain (OpenSpec.ofChange fnLimitListsSpec)) fnLimitListsCard

/-- THE TIED CARD OF 'laws.FnSkipGets'. -/
def fnSkipGetsCard : Claim7 := { stood := { row := fnSkipGetsRow, standIns := [], harness := (true, "d2fb2d53b44f5a84cc70a768777382f99f2e3858045d63f38ff39b759202e9b3"), looks := true }, kinds := [], alts := [], laidByText := true, laidKinds := [.sentinel, .sentinel, .sentinel], laidTests := true, laidLooks := .later }
def FnSkipGetsCardSaid : Prop := Claim7.holds Tryz.pinned (.plain (OpenSpec.ofChange fnSkipGetsSpec)) fnSkipGetsCard

/-- THE TIED CARD OF 'laws.FnCuts'. -/
def fnCutsCard : Claim7 := { stood := { row := fnCutsRow, standIns := [], harness := (true, "d2fb2d53b44f5a84cc70a768777382f99f2e3858045d63f38ff39b759202e9b3"), looks := true }, kinds := [], alts := [], laidByText := true, laidKinds := [.sentinel, .sentinel, .sentinel], laidTests := true, laidLooks := .later }
def FnCutsCardSaid : Prop := Claim7.holds Tryz.pinned (.plain (OpenSpec.ofChange fnCutsSpec)) fnCutsCard

/-- THE SECOND FORM's CARD OF 'laws.FnPutFault'. -/
def fnPutFaultUptoCard : Claim7 := { stood := { row := fnPutFaultUptoRow, standIns := [], harness := (true, "d2fb2d53b44f5a84cc70a768777382f99f2e3858045d63f38ff39b759202e9b3"), looks := true }, kinds := [], alts := [], laidByText := true, laidKinds := [.sentinel, .sentinel, .sentinel], laidTests := true, laidLooks := .later }
def FnPutFaultUptoCardSaid : Prop := Claim7.holds Tryz.pinned (.plain (OpenSpec.upto fnPutFaultSpec)) fnPutFaultUptoCard

/-- THE SECOND FORM's CARD OF 'laws.FnSerial'. -/
def fnSerialUptoCard : Claim7 := { stood := { row := fnSerialUptoRow, standIns := [], harness := (true, "d2fb2d53b44f5a84cc70a768777382f99f2e3858045d63f38ff39b759202e9b3"), looks := true }, kinds := [], alts := [], laidByText := true, laidKinds := [.sentinel, .sentinel, .sentinel], laidTests := true, laidLooks := .later }
def FnSerialUptoCardSaid : Prop := Claim7.holds Tryz.pinned (.plain (OpenSpec.upto fnSerialSpec)) fnSerialUptoCard

/-- THE SECOND FORM's CARD OF 'laws.FnApart'. -/
def fnApartUptoCard : Claim7 := { stood := { row := fnApartUptoRow, standIns := [], harness := (true, "d2fb2d53b44f5a84cc70a768777382f99f2e3858045d63f38ff39b759202e9b3"), looks := true }, kinds := [], alts := [], laidByText := true, laidKinds := [.sentinel, .sentinel, .sentinel], laidTests := true, laidLooks := .later }
def FnApartUptoCardSaid : Prop := Claim7.holds Tryz.pinned (.plain (OpenSpec.upto fnApartSpec)) fnApartUptoCard

/-- THE SECOND FORM's CARD OF 'laws.FnBinaryMessages'. -/
def fnBinaryMessagesUptoCard : Claim7 := { stood := { row := fnBinaryMessagesUptoRow, standIns := [], harness := (true, "d2fb2d53b44f5a84cc70a768777382f99f2e3858045d63f38ff39b759202e9b3"), looks := true }, kinds := [], alts := [], laidByText := true, laidKinds := [.sentinel, .sentinel, .sentinel], laidTests := true, laidLooks := .later }
def FnBinaryMessagesUptoCardSaid : Prop := Claim7.holds Tryz.pinned (.plain (OpenSpec.upto fnBinaryMessagesSpec)) fnBinaryMessagesUptoCard

/-- THE SECOND FORM's CARD OF 'laws.FnLimitLists'. -/
def fnLimitListsUptoCard : Claim7 := { stood := { row := fnLimitListsUptoRow, standIns := [], harness := (true, "d2fb2d53b44f5a84cc70a768777382f99f2e3858045d63f38ff39b759202e9b3"), looks := true }, kinds := [], alts := [], laidByText := true, laidKinds := [.sentinel, .sentinel, .sentinel], laidTests := true, laidLooks := .later }
def FnLimitListsUptoCardSaid : Prop := Claim7.holds Tryz.pinned (.plain (OpenSpec.upto fnLimitListsSpec)) fnLimitListsUptoCard

/-- THE SECOND FORM's CARD OF 'laws.FnSkipGets'. -/
def fnSkipGetsUptoCard : Claim7 := { stood := { row := fnSkipGetsUptoRow, standIns := [], harness := (true, "d2fb2d53b44f5a84cc70a768777382f99f2e3858045d63f38ff39b759202e9b3"), looks := true }, kinds := [], alts := [], laidByText := true, laidKinds := [.sentinel, .sentinel, .sentinel], laidTests := true, laidLooks := .later }
def FnSkipGetsUptoCardSaid : Prop := Claim7.holds Tryz.pinned (.plain (OpenSpec.upto fnSkipGetsSpec)) fnSkipGetsUptoCard

/-- THE SECOND FORM's CARD OF 'laws.FnCuts'. -/
def fnCutsUptoCard : Claim7 := { stood := { row := fnCutsUptoRow, standIns := [], harness := (true, "d2fb2d53b44f5a84cc70a768777382f99f2e3858045d63f38ff39b759202e9b3"), looks := true }, kinds := [], alts := [], laidByText := true, laidKinds := [.sentinel, .sentinel, .sentinel], laidTests := true, laidLooks := .later }
def FnCutsUptoCardSaid : Prop := Claim7.holds Tryz.pinned (.plain (OpenSpec.upto fnCutsSpec)) fnCutsUptoCard
end Rows
end Go.Proofs.YtdifknecndlklaaGreatDoor
