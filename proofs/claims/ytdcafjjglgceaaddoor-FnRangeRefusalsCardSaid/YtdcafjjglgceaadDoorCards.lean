/-
  DERIVED. GIVEN WITH THE SEED: THE CARDS: each row of YtdcafjjglgceaadDoorRows.lean that lists a variable, with what it lists TIED to the program's text (the seventh form; the later family's looks); each row that meets fmt, with fmt's text TOLD by the authors' own Lean function (tested against real Go, not proved from fmt's source: count such statements apart). THE CARD IS WHAT COUNTS. Prove the row's statement (the work); the ties are given (YtdcafjjglgceaadDoorTie.lean); close each card by the builder's one call (the guide's Derived/Test/ToyasCard.lean, 'card_holds'). Laid BY PROGRAM, IN A SANDBOX (cutbox-door.mjs). By AI agents, Wed Nov 11 2026. No macro, syntax, notation, axiom, sorry.
-/
import Derived.Test.YtdcafjjglgceaadDoorRows
import GoSem.ClaimSeven
namespace Go.Proofs.YtdcafjjglgceaadDoor
namespace Rows

/-- THE TIED CARD OF 'n002_54.FnRangeRefusals'. -/
def fnRangeRefusalsCard : Claim7 := { stood := { row := fnRangeRefusalsRow, standIns := [], harness := (true, "9c1b7e3c29df3c77aaca3a8d5d5d9147734c9bc577cc7715cced9311e8948f2a"), looks := true }, kinds := [], alts := [], laidByText := true, laidKinds := [.sentinel, .sentinel], laidTests := true, laidLooks := .later }
def FnRangeRefusalsCardSaid : Prop := Claim7.holds Tryd.pinned (.plain (OpenSpec.ofChange fnRangeRefusalsSpec)) fnRangeRefusalsCard

/-- THE SECOND FORM's CARD OF 'n002_54.FnRangeRefusals'. -/
def fnRangeRefusalsUptoCard : Claim7 := { stood := { row := fnRangeRefusalsUptoRow, standIns := [], harness := (true, "9c1b7e3c29df3c77aaca3a8d5d5d9147734c9bc577cc7715cced9311e8948f2a"), looks := true }, kinds := [], alts := [], laidByText := true, laidKinds := [.sentinel, .sentinel], laidTests := true, laidLooks := .later }
def FnRangeRefusalsUptoCardSaid : Prop := Claim7.holds Tryd.pinned (.plain (OpenSpec.upto fnRangeRefusalsSpec)) fnRangeRefusalsUptoCard
end Rows
end Go.Proofs.YtdcafjjglgceaadDoor
