/-
  DERIVED. GIVEN WITH THE SEED: THE CARDS: each row of YtokibffjabomhaaDoorRows.lean that lists a variable, with what it lists TIED to the program's text (the seventh form; the later family's looks); each row that meets fmt, with fmt's text TOLD by the authors' own Lean function (tested against real Go, not proved from fmt's source: count such statements apart). THE CARD IS WHAT COUNTS. Prove the row's statement (the work); the ties are given (YtokibffjabomhaaDoorTie.lean); close each card by the builder's one call (the guide's Derived/Test/ToyasCard.lean, 'card_holds'). Laid BY PROGRAM, IN A SANDBOX (cutbox-door.mjs). By AI agents, Wed Nov 11 2026. No macro, syntax, notation, axiom, sorry.
-/
import Derived.Test.YtokibffjabomhaaDoorRows
import GoSem.ClaimSeven
namespace Go.Proofs.YtokibffjabomhaaDoor
namespace Rows

/-- THE TIED CARD OF 'n002_47.FnFmtQcPlusExactASCIIQuote'. -/
def fnFmtQcPlusExactASCIIQuoteCard : Claim7 := { stood := { row := fnFmtQcPlusExactASCIIQuoteRow, standIns := [], harness := (true, "6e56a1a5ee552f9f846531ade7981495e0479e0b312cd68196a0cc237c8f2e34"), looks := false }, kinds := [], alts := [], laidByText := true, laidKinds := [.sentinel, .data, .pinned, .pinned, .pinned, .pinned, .pinned], laidTests := true, laidLooks := .later }
def FnFmtQcPlusExactASCIIQuoteCardSaid : Prop := Claim7.holds Tryd.pinned (.plain (OpenSpec.ofChange fnFmtQcPlusExactASCIIQuoteSpec)) fnFmtQcPlusExactASCIIQuoteCard

/-- THE TIED CARD OF 'n002_47.FnFmtQcPlainLiteralOrEscape'. -/
def fnFmtQcPlainLiteralOrEscapeCard : Claim7 := { stood := { row := fnFmtQcPlainLiteralOrEscapeRow, standIns := [], harness := (true, "6e56a1a5ee552f9f846531ade7981495e0479e0b312cd68196a0cc237c8f2e34"), looks := false }, kinds := [], alts := [], laidByText := true, laidKinds := [.sentinel, .data, .pinned, .pinned, .pinned, .pinned, .pinned], laidTests := true, laidLooks := .later }
def FnFmtQcPlainLiteralOrEscapeCardSaid : Prop := Claim7.holds Tryd.pinned (.plain (OpenSpec.ofChange fnFmtQcPlainLiteralOrEscapeSpec)) fnFmtQcPlainLiteralOrEscapeCard

/-- THE SECOND FORM's CARD OF 'n002_47.FnFmtQcPlusExactASCIIQuote'. -/
def fnFmtQcPlusExactASCIIQuoteUptoCard : Claim7 := { stood := { row := fnFmtQcPlusExactASCIIQuoteUptoRow, standIns := [], harness := (true, "6e56a1a5ee552f9f846531ade7981495e0479e0b312cd68196a0cc237c8f2e34"), looks := false }, kinds := [], alts := [], laidByText := true, laidKinds := [.sentinel, .data, .pinned, .pinned, .pinned, .pinned, .pinned], laidTests := true, laidLooks := .later }
def FnFmtQcPlusExactASCIIQuoteUptoCardSaid : Prop := Claim7.holds Tryd.pinned (.plain (OpenSpec.upto fnFmtQcPlusExactASCIIQuoteSpec)) fnFmtQcPlusExactASCIIQuoteUptoCard

/-- THE SECOND FORM's CARD OF 'n002_47.FnFmtQcPlainLiteralOrEscape'. -/
def fnFmtQcPlainLiteralOrEscapeUptoCard : Claim7 := { stood := { row := fnFmtQcPlainLiteralOrEscapeUptoRow, standIns := [], harness := (true, "6e56a1a5ee552f9f846531ade7981495e0479e0b312cd68196a0cc237c8f2e34"), looks := false }, kinds := [], alts := [], laidByText := true, laidKinds := [.sentinel, .data, .pinned, .pinned, .pinned, .pinned, .pinned], laidTests := true, laidLooks := .later }
def FnFmtQcPlainLiteralOrEscapeUptoCardSaid : Prop := Claim7.holds Tryd.pinned (.plain (OpenSpec.upto fnFmtQcPlainLiteralOrEscapeSpec)) fnFmtQcPlainLiteralOrEscapeUptoCard
end Rows
end Go.Proofs.YtokibffjabomhaaDoor
