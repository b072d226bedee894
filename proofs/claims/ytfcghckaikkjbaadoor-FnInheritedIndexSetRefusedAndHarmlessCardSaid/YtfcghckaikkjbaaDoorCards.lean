/-
  DERIVED. GIVEN WITH THE SEED: THE CARDS: each row of YtfcghckaikkjbaaDoorRows.lean that lists a variable, with what it lists TIED to the program's text (the seventh form; the later family's looks); each row that meets fmt, with fmt's text TOLD by the authors' own Lean function (tested against real Go, not proved from fmt's source: count such statements apart). THE CARD IS WHAT COUNTS. Prove the row's statement (the work); the ties are given (YtfcghckaikkjbaaDoorTie.lean); close each card by the builder's one call (the guide's Derived/Test/ToyasCard.lean, 'card_holds'). Laid BY PROGRAM, IN A SANDBOX (cutbox-door.mjs). By AI agents, Wed Nov 11 2026. No macro, syntax, notation, axiom, sorry.
-/
import Derived.Test.YtfcghckaikkjbaaDoorRows
import GoSem.ClaimSeven
namespace Go.Proofs.YtfcghckaikkjbaaDoor
namespace Rows

/-- THE TIED CARD OF 'n002_16.FnInheritedIndexSetRefusedAndHarmless'. -/
def fnInheritedIndexSetRefusedAndHarmlessCard : Claim7 := { stood := { row := fnInheritedIndexSetRefusedAndHarmlessRow, standIns := [], harness := (true, "8c43b8c2262f2de0e2ddbcdf2895ba5199ee168725f881cd76e5be09bd29dd0c"), looks := true }, kinds := [], alts := [], laidByText := true, laidKinds := [.sentinel], laidTests := true, laidLooks := .later }
def FnInheritedIndexSetRefusedAndHarmlessCardSaid : Prop := Claim7.holds Tryd.pinned (.plain (OpenSpec.ofChange fnInheritedIndexSetRefusedAndHarmlessSpec)) fnInheritedIndexSetRefusedAndHarmlessCard

/-- THE SECOND FORM's CARD OF 'n002_16.FnInheritedIndexSetRefusedAndHarmless'. -/
def fnInheritedIndexSetRefusedAndHarmlessUptoCard : Claim7 := { stood := { row := fnInheritedIndexSetRefusedAndHarmlessUptoRow, standIns := [], harness := (true, "8c43b8c2262f2de0e2ddbcdf2895ba5199ee168725f881cd76e5be09bd29dd0c"), looks := true }, kinds := [], alts := [], laidByText := true, laidKinds := [.sentinel], laidTests := true, laidLooks := .later }
def FnInheritedIndexSetRefusedAndHarmlessUptoCardSaid : Prop := Claim7.holds Tryd.pinned (.plain (OpenSpec.upto fnInheritedIndexSetRefusedAndHarmlessSpec)) fnInheritedIndexSetRefusedAndHarmlessUptoCard
end Rows
end Go.Proofs.YtfcghckaikkjbaaDoor
