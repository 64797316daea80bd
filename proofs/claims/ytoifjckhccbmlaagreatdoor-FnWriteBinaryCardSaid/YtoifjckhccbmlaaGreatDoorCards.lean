/-
  DERIVED. GIVEN WITH THE SEED: THE CARDS: each row of YtoifjckhccbmlaaGreatDoorRows.lean that lists a variable, with what it lists TIED to the program's text (the seventh form; the later family's looks); each row that meets fmt, with fmt's text TOLD by the authors' own Lean function (tested against real Go, not proved from fmt's source: count such statements apart). THE CARD IS WHAT COUNTS. Prove the row's statement (the work); the ties are given (YtoifjckhccbmlaaGreatDoorTie.lean); close each card by the builder's one call (the guide's Derived/Test/ToyasCard.lean, 'card_holds'). Laid BY PROGRAM, IN A SANDBOX (cutbox-door.mjs). By AI agents, Wed Nov 11 2026. No macro, syntax, notation, axiom, sorry.
-/
import Derived.Test.YtoifjckhccbmlaaGreatDoorRows
import GoSem.ClaimSeven
namespace Go.Proofs.YtoifjckhccbmlaaGreatDoor
namespace Rows

/-- THE TIED CARD OF 'laws.FnLimitLists'. -/
def fnLimitListsCard : Claim7 := { stood := { row := fnLimitListsRow, standIns := [], harness := (true, "2f8bd1871157ed5601fb51a20a4d7d0879cf4869b40d8452d1737bcbf62f862f"), looks := true }, kinds := [], alts := [], laidByText := true, laidKinds := [.sentinel, .sentinel, .sentinel], laidTests := true, laidLooks := .later }
def FnLimitListsCardSaid : Prop := Claim7.holds Tryz.pinned (.plain (OpenSpec.ofChange fnLimitListsSpec)) fnLimitListsCard

/-- THE TIED CARD OF 'laws.FnPutBinary'. -/
def fnPutBinaryCard : Claim7 := { stood := { row := fnPutBinaryRow, standIns := [], harness := (true, "2f8bd1871157ed5601fb51a20a4d7d0879cf4869b40d8452d1737bcbf62f862f"), looks := true }, kinds := [], alts := [], laidByText := true, laidKinds := [.sentinel, .sentinel, .sentinel], laidTests := true, laidLooks := .later }
def FnPutBinaryCardSaid : Prop := Claim7.holds Tryz.pinned (.plain (OpenSpec.ofChange fnPutBinarySpec)) fnPutBinaryCard

/-- THE TIED CARD OF 'laws.FnPieces'. -/
def fnPiecesCard : Claim7 := { stood := { row := fnPiecesRow, standIns := [], harness := (true, "2f8bd1871157ed5601fb51a20a4d7d0879cf4869b40d8452d1737bcbf62f862f"), looks := true }, kinds := [], alts := [], laidByText := true, laidKinds := [.sentinel, .sentinel, .sentinel, .sentinel], laidTests := true, laidLooks := .later }
def FnPiecesCardSaid : Prop := Claim7.holds Tryz.pinned (.plain (OpenSpec.ofChange fnPiecesSpec)) fnPiecesCard

/-- THE TIED CARD OF 'laws.FnVarintBack'. -/
def fnVarintBackCard : Claim7 := { stood := { row := fnVarintBackRow, standIns := [], harness := (true, "2f8bd1871157ed5601fb51a20a4d7d0879cf4869b40d8452d1737bcbf62f862f"), looks := true }, kinds := [], alts := [], laidByText := true, laidKinds := [.sentinel, .sentinel, .sentinel], laidTests := true, laidLooks := .later }
def FnVarintBackCardSaid : Prop := Claim7.holds Tryz.pinned (.plain (OpenSpec.ofChange fnVarintBackSpec)) fnVarintBackCard

/-- THE TIED CARD OF 'laws.FnWriteBinary'. -/
def fnWriteBinaryCard : Claim7 := { stood := { row := fnWriteBinaryRow, standIns := [], harness := (true, "2f8bd1871157ed5601fb51a20a4d7d0879cf4869b40d8452d1737bcbf62f862f"), looks := true }, kinds := [], alts := [], laidByText := true, laidKinds := [.sentinel, .sentinel, .sentinel], laidTests := true, laidLooks := .later }
def FnWriteBinaryCardSaid : Prop := Claim7.holds Tryz.pinned (.plain (OpenSpec.ofChange fnWriteBinarySpec)) fnWriteBinaryCard

/-- THE TIED CARD OF 'laws.FnBare'. -/
def fnBareCard : Claim7 := { stood := { row := fnBareRow, standIns := [], harness := (true, "2f8bd1871157ed5601fb51a20a4d7d0879cf4869b40d8452d1737bcbf62f862f"), looks := true }, kinds := [], alts := [], laidByText := true, laidKinds := [.sentinel, .sentinel, .sentinel], laidTests := true, laidLooks := .later }
def FnBareCardSaid : Prop := Claim7.holds Tryz.pinned (.plain (OpenSpec.ofChange fnBareSpec)) fnBareCard

/-- THE TIED CARD OF 'laws.FnBinaryField'. -/
def fnBinaryFieldCard : Claim7 := { stood := { row := fnBinaryFieldRow, standIns := [], harness := (true, "2f8bd1871157ed5601fb51a20a4d7d0879cf4869b40d8452d1737bcbf62f862f"), looks := true }, kinds := [], alts := [], laidByText := true, laidKinds := [.sentinel, .sentinel, .sentinel], laidTests := true, laidLooks := .later }
def FnBinaryFieldCardSaid : Prop := Claim7.holds Tryz.pinned (.plain (OpenSpec.ofChange fnBinaryFieldSpec)) fnBinaryFieldCard

/-- THE TIED CARD OF 'laws.FnBinaryLists'. -/
def fnBinaryListsCard : Claim7 := { stood := { row := fnBinaryListsRow, standIns := [], harness := (true, "2f8bd1871157ed5601fb51a20a4d7d0879cf4869b40d8452d1737bcbf62f862f"), looks := true }, kinds := [], alts := [], laidByText := true, laidKinds := [.sentinel, .sentinel, .sentinel], laidTests := true, laidLooks := .later }
def FnBinaryListsCardSaid : Prop := Claim7.holds Tryz.pinned (.plain (OpenSpec.ofChange fnBinaryListsSpec)) fnBinaryListsCard

/-- THE TIED CARD OF 'laws.FnBinaryMaps'. -/
def fnBinaryMapsCard : Claim7 := { stood := { row := fnBinaryMapsRow, standIns := [], harness := (true, "2f8bd1871157ed5601fb51a20a4d7d0879cf4869b40d8452d1737bcbf62f862f"), looks := true }, kinds := [], alts := [], laidByText := true, laidKinds := [.sentinel, .sentinel, .sentinel], laidTests := true, laidLooks := .later }
def FnBinaryMapsCardSaid : Prop := Claim7.holds Tryz.pinned (.plain (OpenSpec.ofChange fnBinaryMapsSpec)) fnBinaryMapsCard

/-- THE TIED CARD OF 'laws.FnBinaryMessages'. -/
def fnBinaryMessagesCard : Claim7 := { stood := { row := fnBinaryMessagesRow, standIns := [], harness := (true, "2f8bd1871157ed5601fb51a20a4d7d0879cf4869b40d8452d1737bcbf62f862f"), looks := true }, kinds := [], alts := [], laidByText := true, laidKinds := [.sentinel, .sentinel, .sentinel], laidTests := true, laidLooks := .later }
def FnBinaryMessagesCardSaid : Prop := Claim7.holds Tryz.pinned (.plain (OpenSpec.ofChange fnBinaryMessagesSpec)) fnBinaryMessagesCard

/-- THE TIED CARD OF 'laws.FnBinaryNumbers'. -/
def fnBinaryNumbersCard : Claim7 := { stood := { row := fnBinaryNumbersRow, standIns := [], harness := (true, "2f8bd1871157ed5601fb51a20a4d7d0879cf4869b40d8452d1737bcbf62f862f"), looks := true }, kinds := [], alts := [], laidByText := true, laidKinds := [.sentinel, .sentinel, .sentinel], laidTests := true, laidLooks := .later }
def FnBinaryNumbersCardSaid : Prop := Claim7.holds Tryz.pinned (.plain (OpenSpec.ofChange fnBinaryNumbersSpec)) fnBinaryNumbersCard

/-- THE TIED CARD OF 'laws.FnBinaryTexts'. -/
def fnBinaryTextsCard : Claim7 := { stood := { row := fnBinaryTextsRow, standIns := [], harness := (true, "2f8bd1871157ed5601fb51a20a4d7d0879cf4869b40d8452d1737bcbf62f862f"), looks := true }, kinds := [], alts := [], laidByText := true, laidKinds := [.sentinel, .sentinel, .sentinel], laidTests := true, laidLooks := .later }
def FnBinaryTextsCardSaid : Prop := Claim7.holds Tryz.pinned (.plain (OpenSpec.ofChange fnBinaryTextsSpec)) fnBinaryTextsCard

/-- THE SECOND FORM's CARD OF 'laws.FnLimitLists'. -/
def fnLimitListsUptoCard : Claim7 := { stood := { row := fnLimitListsUptoRow, standIns := [], harness := (true, "2f8bd1871157ed5601fb51a20a4d7d0879cf4869b40d8452d1737bcbf62f862f"), looks := true }, kinds := [], alts := [], laidByText := true, laidKinds := [.sentinel, .sentinel, .sentinel], laidTests := true, laidLooks := .later }
def FnLimitListsUptoCardSaid : Prop := Claim7.holds Tryz.pinned (.plain (OpenSpec.upto fnLimitListsSpec)) fnLimitListsUptoCard

/-- THE SECOND FORM's CARD OF 'laws.FnPutBinary'. -/
def fnPutBinaryUptoCard : Claim7 := { stood := { row := fnPutBinaryUptoRow, standIns := [], harness := (true, "2f8bd1871157ed5601fb51a20a4d7d0879cf4869b40d8452d1737bcbf62f862f"), looks := true }, kinds := [], alts := [], laidByText := true, laidKinds := [.sentinel, .sentinel, .sentinel], laidTests := true, laidLooks := .later }
def FnPutBinaryUptoCardSaid : Prop := Claim7.holds Tryz.pinned (.plain (OpenSpec.upto fnPutBinarySpec)) fnPutBinaryUptoCard

/-- THE SECOND FORM's CARD OF 'laws.FnPieces'. -/
def fnPiecesUptoCard : Claim7 := { stood := { row := fnPiecesUptoRow, standIns := [], harness := (true, "2f8bd1871157ed5601fb51a20a4d7d0879cf4869b40d8452d1737bcbf62f862f"), looks := true }, kinds := [], alts := [], laidByText := true, laidKinds := [.sentinel, .sentinel, .sentinel, .sentinel], laidTests := true, laidLooks := .later }
def FnPiecesUptoCardSaid : Prop := Claim7.holds Tryz.pinned (.plain (OpenSpec.upto fnPiecesSpec)) fnPiecesUptoCard

/-- THE SECOND FORM's CARD OF 'laws.FnVarintBack'. -/
def fnVarintBackUptoCard : Claim7 := { stood := { row := fnVarintBackUptoRow, standIns := [], harness := (true, "2f8bd1871157ed5601fb51a20a4d7d0879cf4869b40d8452d1737bcbf62f862f"), looks := true }, kinds := [], alts := [], laidByText := true, laidKinds := [.sentinel, .sentinel, .sentinel], laidTests := true, laidLooks := .later }
def FnVarintBackUptoCardSaid : Prop := Claim7.holds Tryz.pinned (.plain (OpenSpec.upto fnVarintBackSpec)) fnVarintBackUptoCard

/-- THE SECOND FORM's CARD OF 'laws.FnWriteBinary'. -/
def fnWriteBinaryUptoCard : Claim7 := { stood := { row := fnWriteBinaryUptoRow, standIns := [], harness := (true, "2f8bd1871157ed5601fb51a20a4d7d0879cf4869b40d8452d1737bcbf62f862f"), looks := true }, kinds := [], alts := [], laidByText := true, laidKinds := [.sentinel, .sentinel, .sentinel], laidTests := true, laidLooks := .later }
def FnWriteBinaryUptoCardSaid : Prop := Claim7.holds Tryz.pinned (.plain (OpenSpec.upto fnWriteBinarySpec)) fnWriteBinaryUptoCard

/-- THE SECOND FORM's CARD OF 'laws.FnBare'. -/
def fnBareUptoCard : Claim7 := { stood := { row := fnBareUptoRow, standIns := [], harness := (true, "2f8bd1871157ed5601fb51a20a4d7d0879cf4869b40d8452d1737bcbf62f862f"), looks := true }, kinds := [], alts := [], laidByText := true, laidKinds := [.sentinel, .sentinel, .sentinel], laidTests := true, laidLooks := .later }
def FnBareUptoCardSaid : Prop := Claim7.holds Tryz.pinned (.plain (OpenSpec.upto fnBareSpec)) fnBareUptoCard

/-- THE SECOND FORM's CARD OF 'laws.FnBinaryField'. -/
def fnBinaryFieldUptoCard : Claim7 := { stood := { row := fnBinaryFieldUptoRow, standIns := [], harness := (true, "2f8bd1871157ed5601fb51a20a4d7d0879cf4869b40d8452d1737bcbf62f862f"), looks := true }, kinds := [], alts := [], laidByText := true, laidKinds := [.sentinel, .sentinel, .sentinel], laidTests := true, laidLooks := .later }
def FnBinaryFieldUptoCardSaid : Prop := Claim7.holds Tryz.pinned (.plain (OpenSpec.upto fnBinaryFieldSpec)) fnBinaryFieldUptoCard

/-- THE SECOND FORM's CARD OF 'laws.FnBinaryLists'. -/
def fnBinaryListsUptoCard : Claim7 := { stood := { row := fnBinaryListsUptoRow, standIns := [], harness := (true, "2f8bd1871157ed5601fb51a20a4d7d0879cf4869b40d8452d1737bcbf62f862f"), looks := true }, kinds := [], alts := [], laidByText := true, laidKinds := [.sentinel, .sentinel, .sentinel], laidTests := true, laidLooks := .later }
def FnBinaryListsUptoCardSaid : Prop := Claim7.holds Tryz.pinned (.plain (OpenSpec.upto fnBinaryListsSpec)) fnBinaryListsUptoCard

/-- THE SECOND FORM's CARD OF 'laws.FnBinaryMaps'. -/
def fnBinaryMapsUptoCard : Claim7 := { stood := { row := fnBinaryMapsUptoRow, standIns := [], harness := (true, "2f8bd1871157ed5601fb51a20a4d7d0879cf4869b40d8452d1737bcbf62f862f"), looks := true }, kinds := [], alts := [], laidByText := true, laidKinds := [.sentinel, .sentinel, .sentinel], laidTests := true, laidLooks := .later }
def FnBinaryMapsUptoCardSaid : Prop := Claim7.holds Tryz.pinned (.plain (OpenSpec.upto fnBinaryMapsSpec)) fnBinaryMapsUptoCard

/-- THE SECOND FORM's CARD OF 'laws.FnBinaryMessages'. -/
def fnBinaryMessagesUptoCard : Claim7 := { stood := { row := fnBinaryMessagesUptoRow, standIns := [], harness := (true, "2f8bd1871157ed5601fb51a20a4d7d0879cf4869b40d8452d1737bcbf62f862f"), looks := true }, kinds := [], alts := [], laidByText := true, laidKinds := [.sentinel, .sentinel, .sentinel], laidTests := true, laidLooks := .later }
def FnBinaryMessagesUptoCardSaid : Prop := Claim7.holds Tryz.pinned (.plain (OpenSpec.upto fnBinaryMessagesSpec)) fnBinaryMessagesUptoCard

/-- THE SECOND FORM's CARD OF 'laws.FnBinaryNumbers'. -/
def fnBinaryNumbersUptoCard : Claim7 := { stood := { row := fnBinaryNumbersUptoRow, standIns := [], harness := (true, "2f8bd1871157ed5601fb51a20a4d7d0879cf4869b40d8452d1737bcbf62f862f"), looks := true }, kinds := [], alts := [], laidByText := true, laidKinds := [.sentinel, .sentinel, .sentinel], laidTests := true, laidLooks := .later }
def FnBinaryNumbersUptoCardSaid : Prop := Claim7.holds Tryz.pinned (.plain (OpenSpec.upto fnBinaryNumbersSpec)) fnBinaryNumbersUptoCard

/-- THE SECOND FORM's CARD OF 'laws.FnBinaryTexts'. -/
def fnBinaryTextsUptoCard : Claim7 := { stood := { row := fnBinaryTextsUptoRow, standIns := [], harness := (true, "2f8bd1871157ed5601fb51a20a4d7d0879cf4869b40d8452d1737bcbf62f862f"), looks := true }, kinds := [], alts := [], laidByText := true, laidKinds := [.sentinel, .sentinel, .sentinel], laidTests := true, laidLooks := .later }
def FnBinaryTextsUptoCardSaid : Prop := Claim7.holds Tryz.pinned (.plain (OpenSpec.upto fnBinaryTextsSpec)) fnBinaryTextsUptoCard
end Rows
end Go.Proofs.YtoifjckhccbmlaaGreatDoor
