/-
  DERIVED. GIVEN WITH THE SEED: THE CARDS: each row of YtjifamcbimbgmaaDoorRows.lean that lists a variable, with what it lists TIED to the program's text (the seventh form; the later family's looks); each row that meets fmt, with fmt's text TOLD by the authors' own Lean function (tested against real Go, not proved from fmt's source: count such statements apart). THE CARD IS WHAT COUNTS. Prove the row's statement (the work); the ties are given (YtjifamcbimbgmaaDoorTie.lean); close each card by the builder's one call (the guide's Derived/Test/ToyasCard.lean, 'card_holds'). Laid BY PROGRAM, IN A SANDBOX (cutbox-door.mjs). By AI agents, Wed Nov 11 2026. No macro, syntax, notation, axiom, sorry.
-/
import Derived.Test.YtjifamcbimbgmaaDoorRows
import GoSem.ClaimSeven
namespace Go.Proofs.YtjifamcbimbgmaaDoor
namespace Rows

/-- THE TIED CARD OF 'n002_156.FnIntStringIsDecimal'. -/
def fnIntStringIsDecimalCard : Claim7 := { stood := { row := fnIntStringIsDecimalRow, standIns := [], harness := (true, "1e862b3ea3ab9e616b3839e8d96eb888b4fe5443374b720245a3b160345e42a5"), looks := false }, kinds := [], alts := [], laidByText := true, laidKinds := [.data, .data, .data], laidTests := true, laidLooks := .later }
def FnIntStringIsDecimalCardSaid : Prop := Claim7.holds Tryd.pinned (.plain (OpenSpec.ofChange fnIntStringIsDecimalSpec)) fnIntStringIsDecimalCard

/-- THE TIED CARD OF 'n002_156.FnIntStringParsesBack'. -/
def fnIntStringParsesBackCard : Claim7 := { stood := { row := fnIntStringParsesBackRow, standIns := [], harness := (true, "1e862b3ea3ab9e616b3839e8d96eb888b4fe5443374b720245a3b160345e42a5"), looks := false }, kinds := [], alts := [], laidByText := true, laidKinds := [.data, .data, .data], laidTests := true, laidLooks := .later }
def FnIntStringParsesBackCardSaid : Prop := Claim7.holds Tryd.pinned (.plain (OpenSpec.ofChange fnIntStringParsesBackSpec)) fnIntStringParsesBackCard

/-- THE SECOND FORM's CARD OF 'n002_156.FnIntStringIsDecimal'. -/
def fnIntStringIsDecimalUptoCard : Claim7 := { stood := { row := fnIntStringIsDecimalUptoRow, standIns := [], harness := (true, "1e862b3ea3ab9e616b3839e8d96eb888b4fe5443374b720245a3b160345e42a5"), looks := false }, kinds := [], alts := [], laidByText := true, laidKinds := [.data, .data, .data], laidTests := true, laidLooks := .later }
def FnIntStringIsDecimalUptoCardSaid : Prop := Claim7.holds Tryd.pinned (.plain (OpenSpec.upto fnIntStringIsDecimalSpec)) fnIntStringIsDecimalUptoCard

/-- THE SECOND FORM's CARD OF 'n002_156.FnIntStringParsesBack'. -/
def fnIntStringParsesBackUptoCard : Claim7 := { stood := { row := fnIntStringParsesBackUptoRow, standIns := [], harness := (true, "1e862b3ea3ab9e616b3839e8d96eb888b4fe5443374b720245a3b160345e42a5"), looks := false }, kinds := [], alts := [], laidByText := true, laidKinds := [.data, .data, .data], laidTests := true, laidLooks := .later }
def FnIntStringParsesBackUptoCardSaid : Prop := Claim7.holds Tryd.pinned (.plain (OpenSpec.upto fnIntStringParsesBackSpec)) fnIntStringParsesBackUptoCard
end Rows
end Go.Proofs.YtjifamcbimbgmaaDoor
