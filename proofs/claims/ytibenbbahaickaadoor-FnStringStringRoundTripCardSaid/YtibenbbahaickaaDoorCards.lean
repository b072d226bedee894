/-
  DERIVED. GIVEN WITH THE SEED: THE CARDS: each row of YtibenbbahaickaaDoorRows.lean that lists a variable, with what it lists TIED to the program's text (the seventh form; the later family's looks); each row that meets fmt, with fmt's text TOLD by the authors' own Lean function (tested against real Go, not proved from fmt's source: count such statements apart). THE CARD IS WHAT COUNTS. Prove the row's statement (the work); the ties are given (YtibenbbahaickaaDoorTie.lean); close each card by the builder's one call (the guide's Derived/Test/ToyasCard.lean, 'card_holds'). Laid BY PROGRAM, IN A SANDBOX (cutbox-door.mjs). By AI agents, Wed Nov 11 2026. No macro, syntax, notation, axiom, sorry.
-/
import Derived.Test.YtibenbbahaickaaDoorRows
import GoSem.ClaimSeven
namespace Go.Proofs.YtibenbbahaickaaDoor
namespace Rows

/-- THE TIED CARD OF 'n002_71.FnStringStringRoundTrip'. -/
def fnStringStringRoundTripCard : Claim7 := { stood := { row := fnStringStringRoundTripRow, standIns := [], harness := (true, "0fd88c6dc937e58abaf8d495d534700d1d56fda8f8be3f8aacdf5fe1770548b4"), looks := false }, kinds := [], alts := [], laidByText := true, laidKinds := [.data, .pinned, .pinned, .pinned, .pinned, .pinned, .pinned], laidTests := true, laidLooks := .later }
def FnStringStringRoundTripCardSaid : Prop := Claim7.holds Tryd.pinned (.plain (OpenSpec.ofChange fnStringStringRoundTripSpec)) fnStringStringRoundTripCard

/-- THE SECOND FORM's CARD OF 'n002_71.FnStringStringRoundTrip'. -/
def fnStringStringRoundTripUptoCard : Claim7 := { stood := { row := fnStringStringRoundTripUptoRow, standIns := [], harness := (true, "0fd88c6dc937e58abaf8d495d534700d1d56fda8f8be3f8aacdf5fe1770548b4"), looks := false }, kinds := [], alts := [], laidByText := true, laidKinds := [.data, .pinned, .pinned, .pinned, .pinned, .pinned, .pinned], laidTests := true, laidLooks := .later }
def FnStringStringRoundTripUptoCardSaid : Prop := Claim7.holds Tryd.pinned (.plain (OpenSpec.upto fnStringStringRoundTripSpec)) fnStringStringRoundTripUptoCard
end Rows
end Go.Proofs.YtibenbbahaickaaDoor
