/-
  DERIVED. GIVEN WITH THE SEED: THE CARDS: each row of YthpkdjgekokemaaGreatDoorRows.lean that lists a variable, with what it lists TIED to the program's text (the seventh form; the later family's looks); each row that meets fmt, with fmt's text TOLD by the authors' own Lean function (tested against real Go, not proved from fmt's source: count such statements apart). THE CARD IS WHAT COUNTS. Prove the row's statement (the work); the ties are given (YthpkdjgekokemaaGreatDoorTie.lean); close each card by the builder's one call (the guide's Derived/Test/ToyasCard.lean, 'card_holds'). Laid BY PROGRAM, IN A SANDBOX (cutbox-door.mjs). By AI agents, Wed Nov 11 2026. No macro, syntax, notation, axiom, sorry.
-/
import Derived.Test.YthpkdjgekokemaaGreatDoorRows
import GoSem.ClaimSeven
namespace Go.Proofs.YthpkdjgekokemaaGreatDoor
namespace Rows

/-- THE TIED CARD OF 'laws.FnLimits'. -/
def fnLimitsCard : Claim7 := { stood := { row := fnLimitsRow, standIns := [], harness := (true, "7772df653d948f8229eb066d06a45ec7410e9251d6b095810c95af2b0d937cbf"), looks := true }, kinds := [], alts := [], laidByText := true, laidKinds := [.sentinel, .sentinel, .sentinel], laidTests := true, laidLooks := .later }
def FnLimitsCardSaid : Prop := Claim7.holds Tryz.pinned (.plain (OpenSpec.ofChange fnLimitsSpec)) fnLimitsCard

/-- THE TIED CARD OF 'laws.FnUnzigzag'. -/
def fnUnzigzagCard : Claim7 := { stood := { row := fnUnzigzagRow, standIns := [], harness := (true, "7772df653d948f8229eb066d06a45ec7410e9251d6b095810c95af2b0d937cbf"), looks := true }, kinds := [], alts := [], laidByText := true, laidKinds := [.sentinel, .sentinel, .sentinel], laidTests := true, laidLooks := .later }
def FnUnzigzagCardSaid : Prop := Claim7.holds Tryz.pinned (.plain (OpenSpec.ofChange fnUnzigzagSpec)) fnUnzigzagCard

/-- THE TIED CARD OF 'laws.FnTypeName'. -/
def fnTypeNameCard : Claim7 := { stood := { row := fnTypeNameRow, standIns := [], harness := (true, "7772df653d948f8229eb066d06a45ec7410e9251d6b095810c95af2b0d937cbf"), looks := true }, kinds := [], alts := [], laidByText := true, laidKinds := [.sentinel, .sentinel, .sentinel], laidTests := true, laidLooks := .later }
def FnTypeNameCardSaid : Prop := Claim7.holds Tryz.pinned (.plain (OpenSpec.ofChange fnTypeNameSpec)) fnTypeNameCard

/-- THE SECOND FORM's CARD OF 'laws.FnLimits'. -/
def fnLimitsUptoCard : Claim7 := { stood := { row := fnLimitsUptoRow, standIns := [], harness := (true, "7772df653d948f8229eb066d06a45ec7410e9251d6b095810c95af2b0d937cbf"), looks := true }, kinds := [], alts := [], laidByText := true, laidKinds := [.sentinel, .sentinel, .sentinel], laidTests := true, laidLooks := .later }
def FnLimitsUptoCardSaid : Prop := Claim7.holds Tryz.pinned (.plain (OpenSpec.upto fnLimitsSpec)) fnLimitsUptoCard

/-- THE SECOND FORM's CARD OF 'laws.FnUnzigzag'. -/
def fnUnzigzagUptoCard : Claim7 := { stood := { row := fnUnzigzagUptoRow, standIns := [], harness := (true, "7772df653d948f8229eb066d06a45ec7410e9251d6b095810c95af2b0d937cbf"), looks := true }, kinds := [], alts := [], laidByText := true, laidKinds := [.sentinel, .sentinel, .sentinel], laidTests := true, laidLooks := .later }
def FnUnzigzagUptoCardSaid : Prop := Claim7.holds Tryz.pinned (.plain (OpenSpec.upto fnUnzigzagSpec)) fnUnzigzagUptoCard

/-- THE SECOND FORM's CARD OF 'laws.FnTypeName'. -/
def fnTypeNameUptoCard : Claim7 := { stood := { row := fnTypeNameUptoRow, standIns := [], harness := (true, "7772df653d948f8229eb066d06a45ec7410e9251d6b095810c95af2b0d937cbf"), looks := true }, kinds := [], alts := [], laidByText := true, laidKinds := [.sentinel, .sentinel, .sentinel], laidTests := true, laidLooks := .later }
def FnTypeNameUptoCardSaid : Prop := Claim7.holds Tryz.pinned (.plain (OpenSpec.upto fnTypeNameSpec)) fnTypeNameUptoCard
end Rows
end Go.Proofs.YthpkdjgekokemaaGreatDoor
