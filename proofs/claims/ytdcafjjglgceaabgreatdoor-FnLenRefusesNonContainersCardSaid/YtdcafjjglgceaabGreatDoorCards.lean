/-
  DERIVED. GIVEN WITH THE SEED: THE CARDS: each row of YtdcafjjglgceaabGreatDoorRows.lean that lists a variable, with what it lists TIED to the program's text (the seventh form; the later family's looks); each row that meets fmt, with fmt's text TOLD by the authors' own Lean function (tested against real Go, not proved from fmt's source: count such statements apart). THE CARD IS WHAT COUNTS. Prove the row's statement (the work); the ties are given (YtdcafjjglgceaabGreatDoorTie.lean); close each card by the builder's one call (the guide's Derived/Test/ToyasCard.lean, 'card_holds'). Laid BY PROGRAM, IN A SANDBOX (cutbox-door.mjs). By AI agents, Wed Nov 11 2026. No macro, syntax, notation, axiom, sorry.
-/
import Derived.Test.YtdcafjjglgceaabGreatDoorRows
import GoSem.ClaimSeven
namespace Go.Proofs.YtdcafjjglgceaabGreatDoor
namespace Rows

/-- THE TIED CARD OF 'n002_54.FnLenRefusesNonContainers'. -/
def fnLenRefusesNonContainersCard : Claim7 := { stood := { row := fnLenRefusesNonContainersRow, standIns := [], harness := (true, "aa34dc53ef34244f48f4c43e3c614f6c390d7f6bcc6cbf91aea6b0f4b2bca0e9"), looks := true }, kinds := [], alts := [], laidByText := true, laidKinds := [.sentinel], laidTests := true, laidLooks := .later }
def FnLenRefusesNonContainersCardSaid : Prop := Claim7.holds Tryz.pinned (.plain (OpenSpec.ofChange fnLenRefusesNonContainersSpec)) fnLenRefusesNonContainersCard

/-- THE SECOND FORM's CARD OF 'n002_54.FnLenRefusesNonContainers'. -/
def fnLenRefusesNonContainersUptoCard : Claim7 := { stood := { row := fnLenRefusesNonContainersUptoRow, standIns := [], harness := (true, "aa34dc53ef34244f48f4c43e3c614f6c390d7f6bcc6cbf91aea6b0f4b2bca0e9"), looks := true }, kinds := [], alts := [], laidByText := true, laidKinds := [.sentinel], laidTests := true, laidLooks := .later }
def FnLenRefusesNonContainersUptoCardSaid : Prop := Claim7.holds Tryz.pinned (.plain (OpenSpec.upto fnLenRefusesNonContainersSpec)) fnLenRefusesNonContainersUptoCard
end Rows
end Go.Proofs.YtdcafjjglgceaabGreatDoor
