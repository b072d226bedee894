/-
  DERIVED. GIVEN WITH THE SEED: THE CARDS: each row of YtdcafjjglgceaacDoorRows.lean that lists a variable, with what it lists TIED to the program's text (the seventh form; the later family's looks); each row that meets fmt, with fmt's text TOLD by the authors' own Lean function (tested against real Go, not proved from fmt's source: count such statements apart). THE CARD IS WHAT COUNTS. Prove the row's statement (the work); the ties are given (YtdcafjjglgceaacDoorTie.lean); close each card by the builder's one call (the guide's Derived/Test/ToyasCard.lean, 'card_holds'). Laid BY PROGRAM, IN A SANDBOX (cutbox-door.mjs). By AI agents, Wed Nov 11 2026. No macro, syntax, notation, axiom, sorry.
-/
import Derived.Test.YtdcafjjglgceaacDoorRows
import GoSem.ClaimSeven
namespace Go.Proofs.YtdcafjjglgceaacDoor
namespace Rows

/-- THE TIED CARD OF 'n002_54.FnLenCountsElements'. -/
def fnLenCountsElementsCard : Claim7 := { stood := { row := fnLenCountsElementsRow, standIns := [], harness := (true, "222cec0ae62a3c48c02055306facf921a160875de66f35fc06a42d3705d09977"), looks := true }, kinds := [], alts := [], laidByText := true, laidKinds := [.sentinel], laidTests := true, laidLooks := .later }
def FnLenCountsElementsCardSaid : Prop := Claim7.holds Tryd.pinned (.plain (OpenSpec.ofChange fnLenCountsElementsSpec)) fnLenCountsElementsCard

/-- THE SECOND FORM's CARD OF 'n002_54.FnLenCountsElements'. -/
def fnLenCountsElementsUptoCard : Claim7 := { stood := { row := fnLenCountsElementsUptoRow, standIns := [], harness := (true, "222cec0ae62a3c48c02055306facf921a160875de66f35fc06a42d3705d09977"), looks := true }, kinds := [], alts := [], laidByText := true, laidKinds := [.sentinel], laidTests := true, laidLooks := .later }
def FnLenCountsElementsUptoCardSaid : Prop := Claim7.holds Tryd.pinned (.plain (OpenSpec.upto fnLenCountsElementsSpec)) fnLenCountsElementsUptoCard
end Rows
end Go.Proofs.YtdcafjjglgceaacDoor
