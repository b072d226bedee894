/-
  DERIVED. GIVEN WITH THE SEED: THE CARDS: each row of YtibndpnoeoajaaaDoorRows.lean that lists a variable, with what it lists TIED to the program's text (the seventh form; the later family's looks); each row that meets fmt, with fmt's text TOLD by the authors' own Lean function (tested against real Go, not proved from fmt's source: count such statements apart). THE CARD IS WHAT COUNTS. Prove the row's statement (the work); the ties are given (YtibndpnoeoajaaaDoorTie.lean); close each card by the builder's one call (the guide's Derived/Test/ToyasCard.lean, 'card_holds'). Laid BY PROGRAM, IN A SANDBOX (cutbox-door.mjs). By AI agents, Wed Nov 11 2026. No macro, syntax, notation, axiom, sorry.
-/
import Derived.Test.YtibndpnoeoajaaaDoorRows
import GoSem.ClaimSeven
namespace Go.Proofs.YtibndpnoeoajaaaDoor
namespace Rows

/-- THE TIED CARD OF 'n002_149.FnFmtQASCIIMatchesQuoteModel'. -/
def fnFmtQASCIIMatchesQuoteModelCard : Claim7 := { stood := { row := fnFmtQASCIIMatchesQuoteModelRow, standIns := [], harness := (true, "052ad37e5486c65cb7850b21e59ca3ccc299beb6b83e398c1e1f5858dbf1d3fa"), looks := false }, kinds := [], alts := [], laidByText := true, laidKinds := [.data, .sentinel, .data, .pinned, .pinned, .pinned, .pinned, .pinned, .pinned], laidTests := true, laidLooks := .later }
def FnFmtQASCIIMatchesQuoteModelCardSaid : Prop := Claim7.holds Tryd.pinned (.plain (OpenSpec.ofChange fnFmtQASCIIMatchesQuoteModelSpec)) fnFmtQASCIIMatchesQuoteModelCard

/-- THE SECOND FORM's CARD OF 'n002_149.FnFmtQASCIIMatchesQuoteModel'. -/
def fnFmtQASCIIMatchesQuoteModelUptoCard : Claim7 := { stood := { row := fnFmtQASCIIMatchesQuoteModelUptoRow, standIns := [], harness := (true, "052ad37e5486c65cb7850b21e59ca3ccc299beb6b83e398c1e1f5858dbf1d3fa"), looks := false }, kinds := [], alts := [], laidByText := true, laidKinds := [.data, .sentinel, .data, .pinned, .pinned, .pinned, .pinned, .pinned, .pinned], laidTests := true, laidLooks := .later }
def FnFmtQASCIIMatchesQuoteModelUptoCardSaid : Prop := Claim7.holds Tryd.pinned (.plain (OpenSpec.upto fnFmtQASCIIMatchesQuoteModelSpec)) fnFmtQASCIIMatchesQuoteModelUptoCard
end Rows
end Go.Proofs.YtibndpnoeoajaaaDoor
