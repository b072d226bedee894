/-
  DERIVED. GIVEN WITH THE SEED: THE CARDS: each row of YteladbeaecmceaaDoorRows.lean that lists a variable, with what it lists TIED to the program's text (the seventh form; the later family's looks); each row that meets fmt, with fmt's text TOLD by the authors' own Lean function (tested against real Go, not proved from fmt's source: count such statements apart). THE CARD IS WHAT COUNTS. Prove the row's statement (the work); the ties are given (YteladbeaecmceaaDoorTie.lean); close each card by the builder's one call (the guide's Derived/Test/ToyasCard.lean, 'card_holds'). Laid BY PROGRAM, IN A SANDBOX (cutbox-door.mjs). By AI agents, Wed Nov 11 2026. No macro, syntax, notation, axiom, sorry.
-/
import Derived.Test.YteladbeaecmceaaDoorRows
import GoSem.ClaimSeven
namespace Go.Proofs.YteladbeaecmceaaDoor
namespace Rows

/-- THE TIED CARD OF 'n002_72.FnWriteAgreesWithOtherWriters'. -/
def fnWriteAgreesWithOtherWritersCard : Claim7 := { stood := { row := fnWriteAgreesWithOtherWritersRow, standIns := [], harness := (true, "f5c6578fc89285e6df4e19cdc6a58c51c712ab894429918c8a34a5947fd6b0f8"), looks := false }, kinds := [], alts := [], laidByText := true, laidKinds := [.sentinel, .data], laidTests := true, laidLooks := .later }
def FnWriteAgreesWithOtherWritersCardSaid : Prop := Claim7.holds Tryd.pinned (.plain (OpenSpec.ofChange fnWriteAgreesWithOtherWritersSpec)) fnWriteAgreesWithOtherWritersCard

/-- THE SECOND FORM's CARD OF 'n002_72.FnWriteAgreesWithOtherWriters'. -/
def fnWriteAgreesWithOtherWritersUptoCard : Claim7 := { stood := { row := fnWriteAgreesWithOtherWritersUptoRow, standIns := [], harness := (true, "f5c6578fc89285e6df4e19cdc6a58c51c712ab894429918c8a34a5947fd6b0f8"), looks := false }, kinds := [], alts := [], laidByText := true, laidKinds := [.sentinel, .data], laidTests := true, laidLooks := .later }
def FnWriteAgreesWithOtherWritersUptoCardSaid : Prop := Claim7.holds Tryd.pinned (.plain (OpenSpec.upto fnWriteAgreesWithOtherWritersSpec)) fnWriteAgreesWithOtherWritersUptoCard
end Rows
end Go.Proofs.YteladbeaecmceaaDoor
