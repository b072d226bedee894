/-
  DERIVED. GIVEN WITH THE SEED: THE CARDS: each row of YtdcafjjglgceaaaDoorRows.lean that lists a variable, with what it lists TIED to the program's text (the seventh form; the later family's looks); each row that meets fmt, with fmt's text TOLD by the authors' own Lean function (tested against real Go, not proved from fmt's source: count such statements apart). THE CARD IS WHAT COUNTS. Prove the row's statement (the work); the ties are given (YtdcafjjglgceaaaDoorTie.lean); close each card by the builder's one call (the guide's Derived/Test/ToyasCard.lean, 'card_holds'). Laid BY PROGRAM, IN A SANDBOX (cutbox-door.mjs). By AI agents, Wed Nov 11 2026. No macro, syntax, notation, axiom, sorry.
-/
import Derived.Test.YtdcafjjglgceaaaDoorRows
import GoSem.ClaimSeven
namespace Go.Proofs.YtdcafjjglgceaaaDoor
namespace Rows

/-- THE TIED CARD OF 'n002_54.FnRangeMatchesArithmeticProgression'. -/
def fnRangeMatchesArithmeticProgressionCard : Claim7 := { stood := { row := fnRangeMatchesArithmeticProgressionRow, standIns := [], harness := (true, "8ee74d77e4756c90f7cbe54b1c11e837176f8f410d250af94e7c354ce5c97be0"), looks := true }, kinds := [], alts := [], laidByText := true, laidKinds := [.sentinel, .sentinel], laidTests := true, laidLooks := .later }
def FnRangeMatchesArithmeticProgressionCardSaid : Prop := Claim7.holds Tryd.pinned (.plain (OpenSpec.ofChange fnRangeMatchesArithmeticProgressionSpec)) fnRangeMatchesArithmeticProgressionCard

/-- THE SECOND FORM's CARD OF 'n002_54.FnRangeMatchesArithmeticProgression'. -/
def fnRangeMatchesArithmeticProgressionUptoCard : Claim7 := { stood := { row := fnRangeMatchesArithmeticProgressionUptoRow, standIns := [], harness := (true, "8ee74d77e4756c90f7cbe54b1c11e837176f8f410d250af94e7c354ce5c97be0"), looks := true }, kinds := [], alts := [], laidByText := true, laidKinds := [.sentinel, .sentinel], laidTests := true, laidLooks := .later }
def FnRangeMatchesArithmeticProgressionUptoCardSaid : Prop := Claim7.holds Tryd.pinned (.plain (OpenSpec.upto fnRangeMatchesArithmeticProgressionSpec)) fnRangeMatchesArithmeticProgressionUptoCard
end Rows
end Go.Proofs.YtdcafjjglgceaaaDoor
