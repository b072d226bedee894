/-
  DERIVED. GIVEN WITH THE SEED: THE CARDS: each row of YtdfjbegifibldaaDoorRows.lean that lists a variable, with what it lists TIED to the program's text (the seventh form; the later family's looks); each row that meets fmt, with fmt's text TOLD by the authors' own Lean function (tested against real Go, not proved from fmt's source: count such statements apart). THE CARD IS WHAT COUNTS. Prove the row's statement (the work); the ties are given (YtdfjbegifibldaaDoorTie.lean); close each card by the builder's one call (the guide's Derived/Test/ToyasCard.lean, 'card_holds'). Laid BY PROGRAM, IN A SANDBOX (cutbox-door.mjs). By AI agents, Wed Nov 11 2026. No macro, syntax, notation, axiom, sorry.
-/
import Derived.Test.YtdfjbegifibldaaDoorRows
import GoSem.ClaimSeven
namespace Go.Proofs.YtdfjbegifibldaaDoor
namespace Rows

/-- THE TIED CARD OF 'n002_66.FnSpliceMatchesModel'. -/
def fnSpliceMatchesModelCard : Claim7 := { stood := { row := fnSpliceMatchesModelRow, standIns := [], harness := (true, "1a5006826f3210fa430acfc801a96f88116beaabc61f319eb2ab46b6f7c735aa"), looks := true }, kinds := [], alts := [], laidByText := true, laidKinds := [.sentinel, .sentinel], laidTests := true, laidLooks := .later }
def FnSpliceMatchesModelCardSaid : Prop := Claim7.holds Tryd.pinned (.plain (OpenSpec.ofChange fnSpliceMatchesModelSpec)) fnSpliceMatchesModelCard

/-- THE TIED CARD OF 'n002_66.FnSpliceDefaultsTable'. -/
def fnSpliceDefaultsTableCard : Claim7 := { stood := { row := fnSpliceDefaultsTableRow, standIns := [], harness := (true, "1a5006826f3210fa430acfc801a96f88116beaabc61f319eb2ab46b6f7c735aa"), looks := true }, kinds := [], alts := [], laidByText := true, laidKinds := [.sentinel, .sentinel], laidTests := true, laidLooks := .later }
def FnSpliceDefaultsTableCardSaid : Prop := Claim7.holds Tryd.pinned (.plain (OpenSpec.ofChange fnSpliceDefaultsTableSpec)) fnSpliceDefaultsTableCard

/-- THE SECOND FORM's CARD OF 'n002_66.FnSpliceMatchesModel'. -/
def fnSpliceMatchesModelUptoCard : Claim7 := { stood := { row := fnSpliceMatchesModelUptoRow, standIns := [], harness := (true, "1a5006826f3210fa430acfc801a96f88116beaabc61f319eb2ab46b6f7c735aa"), looks := true }, kinds := [], alts := [], laidByText := true, laidKinds := [.sentinel, .sentinel], laidTests := true, laidLooks := .later }
def FnSpliceMatchesModelUptoCardSaid : Prop := Claim7.holds Tryd.pinned (.plain (OpenSpec.upto fnSpliceMatchesModelSpec)) fnSpliceMatchesModelUptoCard

/-- THE SECOND FORM's CARD OF 'n002_66.FnSpliceDefaultsTable'. -/
def fnSpliceDefaultsTableUptoCard : Claim7 := { stood := { row := fnSpliceDefaultsTableUptoRow, standIns := [], harness := (true, "1a5006826f3210fa430acfc801a96f88116beaabc61f319eb2ab46b6f7c735aa"), looks := true }, kinds := [], alts := [], laidByText := true, laidKinds := [.sentinel, .sentinel], laidTests := true, laidLooks := .later }
def FnSpliceDefaultsTableUptoCardSaid : Prop := Claim7.holds Tryd.pinned (.plain (OpenSpec.upto fnSpliceDefaultsTableSpec)) fnSpliceDefaultsTableUptoCard
end Rows
end Go.Proofs.YtdfjbegifibldaaDoor
