/-
  DERIVED. GIVEN WITH THE SEED: THE CARDS: each row of YtkfkieebcahiiaaGreatDoorRows.lean that lists a variable, with what it lists TIED to the program's text (the seventh form; the later family's looks); each row that meets fmt, with fmt's text TOLD by the authors' own Lean function (tested against real Go, not proved from fmt's source: count such statements apart). THE CARD IS WHAT COUNTS. Prove the row's statement (the work); the ties are given (YtkfkieebcahiiaaGreatDoorTie.lean); close each card by the builder's one call (the guide's Derived/Test/ToyasCard.lean, 'card_holds'). Laid BY PROGRAM, IN A SANDBOX (cutbox-door.mjs). By AI agents, Wed Nov 11 2026. No macro, syntax, notation, axiom, sorry.
-/
import Derived.Test.YtkfkieebcahiiaaGreatDoorRows
import GoSem.ClaimSeven
namespace Go.Proofs.YtkfkieebcahiiaaGreatDoor
namespace Rows

/-- THE TIED CARD OF 'laws.FnPutMessage'. -/
def fnPutMessageCard : Claim7 := { stood := { row := fnPutMessageRow, standIns := [], harness := (true, "81ff1a8729250d45f796cb80167cc37e0cd091798d4f7db5397cbd8cefa9c37f"), looks := true }, kinds := [], alts := [], laidByText := true, laidKinds := [.sentinel, .sentinel, .sentinel], laidTests := true, laidLooks := .later }
def FnPutMessageCardSaid : Prop := Claim7.holds Tryz.pinned (.plain (OpenSpec.ofChange fnPutMessageSpec)) fnPutMessageCard

/-- THE TIED CARD OF 'laws.FnSend'. -/
def fnSendCard : Claim7 := { stood := { row := fnSendRow, standIns := [], harness := (true, "81ff1a8729250d45f796cb80167cc37e0cd091798d4f7db5397cbd8cefa9c37f"), looks := true }, kinds := [], alts := [], laidByText := true, laidKinds := [.sentinel, .sentinel, .sentinel], laidTests := true, laidLooks := .later }
def FnSendCardSaid : Prop := Claim7.holds Tryz.pinned (.plain (OpenSpec.ofChange fnSendSpec)) fnSendCard

/-- THE TIED CARD OF 'laws.FnSerial'. -/
def fnSerialCard : Claim7 := { stood := { row := fnSerialRow, standIns := [], harness := (true, "81ff1a8729250d45f796cb80167cc37e0cd091798d4f7db5397cbd8cefa9c37f"), looks := true }, kinds := [], alts := [], laidByText := true, laidKinds := [.sentinel, .sentinel, .sentinel], laidTests := true, laidLooks := .later }
def FnSerialCardSaid : Prop := Claim7.holds Tryz.pinned (.plain (OpenSpec.ofChange fnSerialSpec)) fnSerialCard

/-- THE TIED CARD OF 'laws.FnPutFault'. -/
def fnPutFaultCard : Claim7 := { stood := { row := fnPutFaultRow, standIns := [], harness := (true, "81ff1a8729250d45f796cb80167cc37e0cd091798d4f7db5397cbd8cefa9c37f"), looks := true }, kinds := [], alts := [], laidByText := true, laidKinds := [.sentinel, .sentinel, .sentinel], laidTests := true, laidLooks := .later }
def FnPutFaultCardSaid : Prop := Claim7.holds Tryz.pinned (.plain (OpenSpec.ofChange fnPutFaultSpec)) fnPutFaultCard

/-- THE TIED CARD OF 'laws.FnCompactSizes'. -/
def fnCompactSizesCard : Claim7 := { stood := { row := fnCompactSizesRow, standIns := [], harness := (true, "81ff1a8729250d45f796cb80167cc37e0cd091798d4f7db5397cbd8cefa9c37f"), looks := true }, kinds := [], alts := [], laidByText := true, laidKinds := [.sentinel, .sentinel, .sentinel], laidTests := true, laidLooks := .later }
def FnCompactSizesCardSaid : Prop := Claim7.holds Tryz.pinned (.plain (OpenSpec.ofChange fnCompactSizesSpec)) fnCompactSizesCard

/-- THE TIED CARD OF 'laws.FnBinaryMessages'. -/
def fnBinaryMessagesCard : Claim7 := { stood := { row := fnBinaryMessagesRow, standIns := [], harness := (true, "81ff1a8729250d45f796cb80167cc37e0cd091798d4f7db5397cbd8cefa9c37f"), looks := true }, kinds := [], alts := [], laidByText := true, laidKinds := [.sentinel, .sentinel, .sentinel], laidTests := true, laidLooks := .later }
def FnBinaryMessagesCardSaid : Prop := Claim7.holds Tryz.pinned (.plain (OpenSpec.ofChange fnBinaryMessagesSpec)) fnBinaryMessagesCard

/-- THE TIED CARD OF 'laws.FnBare'. -/
def fnBareCard : Claim7 := { stood := { row := fnBareRow, standIns := [], harness := (true, "81ff1a8729250d45f796cb80167cc37e0cd091798d4f7db5397cbd8cefa9c37f"), looks := true }, kinds := [], alts := [], laidByText := true, laidKinds := [.sentinel, .sentinel, .sentinel], laidTests := true, laidLooks := .later }
def FnBareCardSaid : Prop := Claim7.holds Tryz.pinned (.plain (OpenSpec.ofChange fnBareSpec)) fnBareCard

/-- THE TIED CARD OF 'laws.FnVarintBack'. -/
def fnVarintBackCard : Claim7 := { stood := { row := fnVarintBackRow, standIns := [], harness := (true, "81ff1a8729250d45f796cb80167cc37e0cd091798d4f7db5397cbd8cefa9c37f"), looks := true }, kinds := [], alts := [], laidByText := true, laidKinds := [.sentinel, .sentinel, .sentinel], laidTests := true, laidLooks := .later }
def FnVarintBackCardSaid : Prop := Claim7.holds Tryz.pinned (.plain (OpenSpec.ofChange fnVarintBackSpec)) fnVarintBackCard

/-- THE SECOND FORM's CARD OF 'laws.FnPutMessage'. -/
def fnPutMessageUptoCard : Claim7 := { stood := { row := fnPutMessageUptoRow, standIns := [], harness := (true, "81ff1a8729250d45f796cb80167cc37e0cd091798d4f7db5397cbd8cefa9c37f"), looks := true }, kinds := [], alts := [], laidByText := true, laidKinds := [.sentinel, .sentinel, .sentinel], laidTests := true, laidLooks := .later }
def FnPutMessageUptoCardSaid : Prop := Claim7.holds Tryz.pinned (.plain (OpenSpec.upto fnPutMessageSpec)) fnPutMessageUptoCard

/-- THE SECOND FORM's CARD OF 'laws.FnSend'. -/
def fnSendUptoCard : Claim7 := { stood := { row := fnSendUptoRow, standIns := [], harness := (true, "81ff1a8729250d45f796cb80167cc37e0cd091798d4f7db5397cbd8cefa9c37f"), looks := true }, kinds := [], alts := [], laidByText := true, laidKinds := [.sentinel, .sentinel, .sentinel], laidTests := true, laidLooks := .later }
def FnSendUptoCardSaid : Prop := Claim7.holds Tryz.pinned (.plain (OpenSpec.upto fnSendSpec)) fnSendUptoCard

/-- THE SECOND FORM's CARD OF 'laws.FnSerial'. -/
def fnSerialUptoCard : Claim7 := { stood := { row := fnSerialUptoRow, standIns := [], harness := (true, "81ff1a8729250d45f796cb80167cc37e0cd091798d4f7db5397cbd8cefa9c37f"), looks := true }, kinds := [], alts := [], laidByText := true, laidKinds := [.sentinel, .sentinel, .sentinel], laidTests := true, laidLooks := .later }
def FnSerialUptoCardSaid : Prop := Claim7.holds Tryz.pinned (.plain (OpenSpec.upto fnSerialSpec)) fnSerialUptoCard

/-- THE SECOND FORM's CARD OF 'laws.FnPutFault'. -/
def fnPutFaultUptoCard : Claim7 := { stood := { row := fnPutFaultUptoRow, standIns := [], harness := (true, "81ff1a8729250d45f796cb80167cc37e0cd091798d4f7db5397cbd8cefa9c37f"), looks := true }, kinds := [], alts := [], laidByText := true, laidKinds := [.sentinel, .sentinel, .sentinel], laidTests := true, laidLooks := .later }
def FnPutFaultUptoCardSaid : Prop := Claim7.holds Tryz.pinned (.plain (OpenSpec.upto fnPutFaultSpec)) fnPutFaultUptoCard

/-- THE SECOND FORM's CARD OF 'laws.FnCompactSizes'. -/
def fnCompactSizesUptoCard : Claim7 := { stood := { row := fnCompactSizesUptoRow, standIns := [], harness := (true, "81ff1a8729250d45f796cb80167cc37e0cd091798d4f7db5397cbd8cefa9c37f"), looks := true }, kinds := [], alts := [], laidByText := true, laidKinds := [.sentinel, .sentinel, .sentinel], laidTests := true, laidLooks := .later }
def FnCompactSizesUptoCardSaid : Prop := Claim7.holds Tryz.pinned (.plain (OpenSpec.upto fnCompactSizesSpec)) fnCompactSizesUptoCard

/-- THE SECOND FORM's CARD OF 'laws.FnBinaryMessages'. -/
def fnBinaryMessagesUptoCard : Claim7 := { stood := { row := fnBinaryMessagesUptoRow, standIns := [], harness := (true, "81ff1a8729250d45f796cb80167cc37e0cd091798d4f7db5397cbd8cefa9c37f"), looks := true }, kinds := [], alts := [], laidByText := true, laidKinds := [.sentinel, .sentinel, .sentinel], laidTests := true, laidLooks := .later }
def FnBinaryMessagesUptoCardSaid : Prop := Claim7.holds Tryz.pinned (.plain (OpenSpec.upto fnBinaryMessagesSpec)) fnBinaryMessagesUptoCard

/-- THE SECOND FORM's CARD OF 'laws.FnBare'. -/
def fnBareUptoCard : Claim7 := { stood := { row := fnBareUptoRow, standIns := [], harness := (true, "81ff1a8729250d45f796cb80167cc37e0cd091798d4f7db5397cbd8cefa9c37f"), looks := true }, kinds := [], alts := [], laidByText := true, laidKinds := [.sentinel, .sentinel, .sentinel], laidTests := true, laidLooks := .later }
def FnBareUptoCardSaid : Prop := Claim7.holds Tryz.pinned (.plain (OpenSpec.upto fnBareSpec)) fnBareUptoCard

/-- THE SECOND FORM's CARD OF 'laws.FnVarintBack'. -/
def fnVarintBackUptoCard : Claim7 := { stood := { row := fnVarintBackUptoRow, standIns := [], harness := (true, "81ff1a8729250d45f796cb80167cc37e0cd091798d4f7db5397cbd8cefa9c37f"), looks := true }, kinds := [], alts := [], laidByText := true, laidKinds := [.sentinel, .sentinel, .sentinel], laidTests := true, laidLooks := .later }
def FnVarintBackUptoCardSaid : Prop := Claim7.holds Tryz.pinned (.plain (OpenSpec.upto fnVarintBackSpec)) fnVarintBackUptoCard
end Rows
end Go.Proofs.YtkfkieebcahiiaaGreatDoor
