/-
  DERIVED. GIVEN WITH THE SEED: THE CARDS: each row of YtdedkoahfailcaaGreatDoorRows.lean that lists a variable, with what it lists TIED to the program's text (the seventh form; the later family's looks); each row that meets fmt, with fmt's text TOLD by the authors' own Lean function (tested against real Go, not proved from fmt's source: count such statements apart). THE CARD IS WHAT COUNTS. Prove the row's statement (the work); the ties are given (YtdedkoahfailcaaGreatDoorTie.lean); close each card by the builder's one call (the guide's Derived/Test/ToyasCard.lean, 'card_holds'). Laid BY PROGRAM, IN A SANDBOX (cutbox-door.mjs). By AI agents, Wed Nov 11 2026. No macro, syntax, notation, axiom, sorry.
-/
import Derived.Test.YtdedkoahfailcaaGreatDoorRows
import GoSem.ClaimSeven
namespace Go.Proofs.YtdedkoahfailcaaGreatDoor
namespace Rows

/-- THE TIED CARD OF 'laws.FnLimits'. -/
def fnLimitsCard : Claim7 := { stood := { row := fnLimitsRow, standIns := [], harness := (true, "b9f57e00dbef552fe7da98483f48275f238f7f1abc3a6ca84df322e8609842db"), looks := true }, kinds := [], alts := [], laidByText := true, laidKinds := [.sentinel, .sentinel, .sentinel], laidTests := true, laidLooks := .later }
def FnLimitsCardSaid : Prop := Claim7.holds Tryz.pinned (.plain (OpenSpec.ofChange fnLimitsSpec)) fnLimitsCard

/-- THE TIED CARD OF 'laws.FnUnorderedTurns'. -/
def fnUnorderedTurnsCard : Claim7 := { stood := { row := fnUnorderedTurnsRow, standIns := [], harness := (true, "b9f57e00dbef552fe7da98483f48275f238f7f1abc3a6ca84df322e8609842db"), looks := true }, kinds := [], alts := [], laidByText := true, laidKinds := [.sentinel, .sentinel, .sentinel], laidTests := true, laidLooks := .later }
def FnUnorderedTurnsCardSaid : Prop := Claim7.holds Tryz.pinned (.plain (OpenSpec.ofChange fnUnorderedTurnsSpec)) fnUnorderedTurnsCard

/-- THE TIED CARD OF 'laws.FnTypeName'. -/
def fnTypeNameCard : Claim7 := { stood := { row := fnTypeNameRow, standIns := [], harness := (true, "b9f57e00dbef552fe7da98483f48275f238f7f1abc3a6ca84df322e8609842db"), looks := true }, kinds := [], alts := [], laidByText := true, laidKinds := [.sentinel, .sentinel, .sentinel], laidTests := true, laidLooks := .later }
def FnTypeNameCardSaid : Prop := Claim7.holds Tryz.pinned (.plain (OpenSpec.ofChange fnTypeNameSpec)) fnTypeNameCard

/-- THE TIED CARD OF 'laws.FnTypeNames'. -/
def fnTypeNamesCard : Claim7 := { stood := { row := fnTypeNamesRow, standIns := [], harness := (true, "b9f57e00dbef552fe7da98483f48275f238f7f1abc3a6ca84df322e8609842db"), looks := true }, kinds := [], alts := [], laidByText := true, laidKinds := [.sentinel, .sentinel, .sentinel], laidTests := true, laidLooks := .later }
def FnTypeNamesCardSaid : Prop := Claim7.holds Tryz.pinned (.plain (OpenSpec.ofChange fnTypeNamesSpec)) fnTypeNamesCard

/-- THE TIED CARD OF 'laws.FnUuid'. -/
def fnUuidCard : Claim7 := { stood := { row := fnUuidRow, standIns := [], harness := (true, "b9f57e00dbef552fe7da98483f48275f238f7f1abc3a6ca84df322e8609842db"), looks := true }, kinds := [], alts := [], laidByText := true, laidKinds := [.sentinel, .sentinel, .sentinel], laidTests := true, laidLooks := .later }
def FnUuidCardSaid : Prop := Claim7.holds Tryz.pinned (.plain (OpenSpec.ofChange fnUuidSpec)) fnUuidCard

/-- THE TIED CARD OF 'laws.FnUuidBack'. -/
def fnUuidBackCard : Claim7 := { stood := { row := fnUuidBackRow, standIns := [], harness := (true, "b9f57e00dbef552fe7da98483f48275f238f7f1abc3a6ca84df322e8609842db"), looks := true }, kinds := [], alts := [], laidByText := true, laidKinds := [.sentinel, .sentinel, .sentinel], laidTests := true, laidLooks := .later }
def FnUuidBackCardSaid : Prop := Claim7.holds Tryz.pinned (.plain (OpenSpec.ofChange fnUuidBackSpec)) fnUuidBackCard

/-- THE TIED CARD OF 'laws.FnVarint'. -/
def fnVarintCard : Claim7 := { stood := { row := fnVarintRow, standIns := [], harness := (true, "b9f57e00dbef552fe7da98483f48275f238f7f1abc3a6ca84df322e8609842db"), looks := true }, kinds := [], alts := [], laidByText := true, laidKinds := [.sentinel, .sentinel, .sentinel], laidTests := true, laidLooks := .later }
def FnVarintCardSaid : Prop := Claim7.holds Tryz.pinned (.plain (OpenSpec.ofChange fnVarintSpec)) fnVarintCard

/-- THE TIED CARD OF 'laws.FnPieces'. -/
def fnPiecesCard : Claim7 := { stood := { row := fnPiecesRow, standIns := [], harness := (true, "b9f57e00dbef552fe7da98483f48275f238f7f1abc3a6ca84df322e8609842db"), looks := true }, kinds := [], alts := [], laidByText := true, laidKinds := [.sentinel, .sentinel, .sentinel, .sentinel], laidTests := true, laidLooks := .later }
def FnPiecesCardSaid : Prop := Claim7.holds Tryz.pinned (.plain (OpenSpec.ofChange fnPiecesSpec)) fnPiecesCard

/-- THE SECOND FORM's CARD OF 'laws.FnLimits'. -/
def fnLimitsUptoCard : Claim7 := { stood := { row := fnLimitsUptoRow, standIns := [], harness := (true, "b9f57e00dbef552fe7da98483f48275f238f7f1abc3a6ca84df322e8609842db"), looks := true }, kinds := [], alts := [], laidByText := true, laidKinds := [.sentinel, .sentinel, .sentinel], laidTests := true, laidLooks := .later }
def FnLimitsUptoCardSaid : Prop := Claim7.holds Tryz.pinned (.plain (OpenSpec.upto fnLimitsSpec)) fnLimitsUptoCard

/-- THE SECOND FORM's CARD OF 'laws.FnUnorderedTurns'. -/
def fnUnorderedTurnsUptoCard : Claim7 := { stood := { row := fnUnorderedTurnsUptoRow, standIns := [], harness := (true, "b9f57e00dbef552fe7da98483f48275f238f7f1abc3a6ca84df322e8609842db"), looks := true }, kinds := [], alts := [], laidByText := true, laidKinds := [.sentinel, .sentinel, .sentinel], laidTests := true, laidLooks := .later }
def FnUnorderedTurnsUptoCardSaid : Prop := Claim7.holds Tryz.pinned (.plain (OpenSpec.upto fnUnorderedTurnsSpec)) fnUnorderedTurnsUptoCard

/-- THE SECOND FORM's CARD OF 'laws.FnTypeName'. -/
def fnTypeNameUptoCard : Claim7 := { stood := { row := fnTypeNameUptoRow, standIns := [], harness := (true, "b9f57e00dbef552fe7da98483f48275f238f7f1abc3a6ca84df322e8609842db"), looks := true }, kinds := [], alts := [], laidByText := true, laidKinds := [.sentinel, .sentinel, .sentinel], laidTests := true, laidLooks := .later }
def FnTypeNameUptoCardSaid : Prop := Claim7.holds Tryz.pinned (.plain (OpenSpec.upto fnTypeNameSpec)) fnTypeNameUptoCard

/-- THE SECOND FORM's CARD OF 'laws.FnTypeNames'. -/
def fnTypeNamesUptoCard : Claim7 := { stood := { row := fnTypeNamesUptoRow, standIns := [], harness := (true, "b9f57e00dbef552fe7da98483f48275f238f7f1abc3a6ca84df322e8609842db"), looks := true }, kinds := [], alts := [], laidByText := true, laidKinds := [.sentinel, .sentinel, .sentinel], laidTests := true, laidLooks := .later }
def FnTypeNamesUptoCardSaid : Prop := Claim7.holds Tryz.pinned (.plain (OpenSpec.upto fnTypeNamesSpec)) fnTypeNamesUptoCard

/-- THE SECOND FORM's CARD OF 'laws.FnUuid'. -/
def fnUuidUptoCard : Claim7 := { stood := { row := fnUuidUptoRow, standIns := [], harness := (true, "b9f57e00dbef552fe7da98483f48275f238f7f1abc3a6ca84df322e8609842db"), looks := true }, kinds := [], alts := [], laidByText := true, laidKinds := [.sentinel, .sentinel, .sentinel], laidTests := true, laidLooks := .later }
def FnUuidUptoCardSaid : Prop := Claim7.holds Tryz.pinned (.plain (OpenSpec.upto fnUuidSpec)) fnUuidUptoCard

/-- THE SECOND FORM's CARD OF 'laws.FnUuidBack'. -/
def fnUuidBackUptoCard : Claim7 := { stood := { row := fnUuidBackUptoRow, standIns := [], harness := (true, "b9f57e00dbef552fe7da98483f48275f238f7f1abc3a6ca84df322e8609842db"), looks := true }, kinds := [], alts := [], laidByText := true, laidKinds := [.sentinel, .sentinel, .sentinel], laidTests := true, laidLooks := .later }
def FnUuidBackUptoCardSaid : Prop := Claim7.holds Tryz.pinned (.plain (OpenSpec.upto fnUuidBackSpec)) fnUuidBackUptoCard

/-- THE SECOND FORM's CARD OF 'laws.FnVarint'. -/
def fnVarintUptoCard : Claim7 := { stood := { row := fnVarintUptoRow, standIns := [], harness := (true, "b9f57e00dbef552fe7da98483f48275f238f7f1abc3a6ca84df322e8609842db"), looks := true }, kinds := [], alts := [], laidByText := true, laidKinds := [.sentinel, .sentinel, .sentinel], laidTests := true, laidLooks := .later }
def FnVarintUptoCardSaid : Prop := Claim7.holds Tryz.pinned (.plain (OpenSpec.upto fnVarintSpec)) fnVarintUptoCard

/-- THE SECOND FORM's CARD OF 'laws.FnPieces'. -/
def fnPiecesUptoCard : Claim7 := { stood := { row := fnPiecesUptoRow, standIns := [], harness := (true, "b9f57e00dbef552fe7da98483f48275f238f7f1abc3a6ca84df322e8609842db"), looks := true }, kinds := [], alts := [], laidByText := true, laidKinds := [.sentinel, .sentinel, .sentinel, .sentinel], laidTests := true, laidLooks := .later }
def FnPiecesUptoCardSaid : Prop := Claim7.holds Tryz.pinned (.plain (OpenSpec.upto fnPiecesSpec)) fnPiecesUptoCard
end Rows
end Go.Proofs.YtdedkoahfailcaaGreatDoor
