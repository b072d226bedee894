/-
  DERIVED. GIVEN WITH THE SEED: THE CARDS: each row of YtegidggehpbkmaaDoorRows.lean that lists a variable, with what it lists TIED to the program's text (the seventh form; the later family's looks); each row that meets fmt, with fmt's text TOLD by the authors' own Lean function (tested against real Go, not proved from fmt's source: count such statements apart). THE CARD IS WHAT COUNTS. Prove the row's statement (the work); the ties are given (YtegidggehpbkmaaDoorTie.lean); close each card by the builder's one call (the guide's Derived/Test/ToyasCard.lean, 'card_holds'). Laid BY PROGRAM, IN A SANDBOX (cutbox-door.mjs). By AI agents, Wed Nov 11 2026. No macro, syntax, notation, axiom, sorry.
-/
import Derived.Test.YtegidggehpbkmaaDoorRows
import GoSem.ClaimSeven
namespace Go.Proofs.YtegidggehpbkmaaDoor
namespace Rows

/-- THE TIED CARD OF 'n002_47.FnFmtbufWriteStringAppendsExactly'. -/
def fnFmtbufWriteStringAppendsExactlyCard : Claim7 := { stood := { row := fnFmtbufWriteStringAppendsExactlyRow, standIns := [], harness := (true, "5e24d0268bde37864a80e615d543ee39699e1a0c9e6e232c96f37a1d404f5978"), looks := false }, kinds := [], alts := [], laidByText := true, laidKinds := [.sentinel, .data], laidTests := true, laidLooks := .later }
def FnFmtbufWriteStringAppendsExactlyCardSaid : Prop := Claim7.holds Tryd.pinned (.plain (OpenSpec.ofChange fnFmtbufWriteStringAppendsExactlySpec)) fnFmtbufWriteStringAppendsExactlyCard

/-- THE TIED CARD OF 'n002_47.FnFmtbufWriteAppendsExactly'. -/
def fnFmtbufWriteAppendsExactlyCard : Claim7 := { stood := { row := fnFmtbufWriteAppendsExactlyRow, standIns := [], harness := (true, "5e24d0268bde37864a80e615d543ee39699e1a0c9e6e232c96f37a1d404f5978"), looks := false }, kinds := [], alts := [], laidByText := true, laidKinds := [.sentinel, .data], laidTests := true, laidLooks := .later }
def FnFmtbufWriteAppendsExactlyCardSaid : Prop := Claim7.holds Tryd.pinned (.plain (OpenSpec.ofChange fnFmtbufWriteAppendsExactlySpec)) fnFmtbufWriteAppendsExactlyCard

/-- THE TIED CARD OF 'n002_47.FnFmtbufWriteStringScriptAgreesWithWrite'. -/
def fnFmtbufWriteStringScriptAgreesWithWriteCard : Claim7 := { stood := { row := fnFmtbufWriteStringScriptAgreesWithWriteRow, standIns := [], harness := (true, "5e24d0268bde37864a80e615d543ee39699e1a0c9e6e232c96f37a1d404f5978"), looks := false }, kinds := [], alts := [], laidByText := true, laidKinds := [.sentinel, .data], laidTests := true, laidLooks := .later }
def FnFmtbufWriteStringScriptAgreesWithWriteCardSaid : Prop := Claim7.holds Tryd.pinned (.plain (OpenSpec.ofChange fnFmtbufWriteStringScriptAgreesWithWriteSpec)) fnFmtbufWriteStringScriptAgreesWithWriteCard

/-- THE TIED CARD OF 'n002_47.FnFmtbufWriteSplitInvariant'. -/
def fnFmtbufWriteSplitInvariantCard : Claim7 := { stood := { row := fnFmtbufWriteSplitInvariantRow, standIns := [], harness := (true, "5e24d0268bde37864a80e615d543ee39699e1a0c9e6e232c96f37a1d404f5978"), looks := false }, kinds := [], alts := [], laidByText := true, laidKinds := [.sentinel, .data], laidTests := true, laidLooks := .later }
def FnFmtbufWriteSplitInvariantCardSaid : Prop := Claim7.holds Tryd.pinned (.plain (OpenSpec.ofChange fnFmtbufWriteSplitInvariantSpec)) fnFmtbufWriteSplitInvariantCard

/-- THE SECOND FORM's CARD OF 'n002_47.FnFmtbufWriteStringAppendsExactly'. -/
def fnFmtbufWriteStringAppendsExactlyUptoCard : Claim7 := { stood := { row := fnFmtbufWriteStringAppendsExactlyUptoRow, standIns := [], harness := (true, "5e24d0268bde37864a80e615d543ee39699e1a0c9e6e232c96f37a1d404f5978"), looks := false }, kinds := [], alts := [], laidByText := true, laidKinds := [.sentinel, .data], laidTests := true, laidLooks := .later }
def FnFmtbufWriteStringAppendsExactlyUptoCardSaid : Prop := Claim7.holds Tryd.pinned (.plain (OpenSpec.upto fnFmtbufWriteStringAppendsExactlySpec)) fnFmtbufWriteStringAppendsExactlyUptoCard

/-- THE SECOND FORM's CARD OF 'n002_47.FnFmtbufWriteAppendsExactly'. -/
def fnFmtbufWriteAppendsExactlyUptoCard : Claim7 := { stood := { row := fnFmtbufWriteAppendsExactlyUptoRow, standIns := [], harness := (true, "5e24d0268bde37864a80e615d543ee39699e1a0c9e6e232c96f37a1d404f5978"), looks := false }, kinds := [], alts := [], laidByText := true, laidKinds := [.sentinel, .data], laidTests := true, laidLooks := .later }
def FnFmtbufWriteAppendsExactlyUptoCardSaid : Prop := Claim7.holds Tryd.pinned (.plain (OpenSpec.upto fnFmtbufWriteAppendsExactlySpec)) fnFmtbufWriteAppendsExactlyUptoCard

/-- THE SECOND FORM's CARD OF 'n002_47.FnFmtbufWriteStringScriptAgreesWithWrite'. -/
def fnFmtbufWriteStringScriptAgreesWithWriteUptoCard : Claim7 := { stood := { row := fnFmtbufWriteStringScriptAgreesWithWriteUptoRow, standIns := [], harness := (true, "5e24d0268bde37864a80e615d543ee39699e1a0c9e6e232c96f37a1d404f5978"), looks := false }, kinds := [], alts := [], laidByText := true, laidKinds := [.sentinel, .data], laidTests := true, laidLooks := .later }
def FnFmtbufWriteStringScriptAgreesWithWriteUptoCardSaid : Prop := Claim7.holds Tryd.pinned (.plain (OpenSpec.upto fnFmtbufWriteStringScriptAgreesWithWriteSpec)) fnFmtbufWriteStringScriptAgreesWithWriteUptoCard

/-- THE SECOND FORM's CARD OF 'n002_47.FnFmtbufWriteSplitInvariant'. -/
def fnFmtbufWriteSplitInvariantUptoCard : Claim7 := { stood := { row := fnFmtbufWriteSplitInvariantUptoRow, standIns := [], harness := (true, "5e24d0268bde37864a80e615d543ee39699e1a0c9e6e232c96f37a1d404f5978"), looks := false }, kinds := [], alts := [], laidByText := true, laidKinds := [.sentinel, .data], laidTests := true, laidLooks := .later }
def FnFmtbufWriteSplitInvariantUptoCardSaid : Prop := Claim7.holds Tryd.pinned (.plain (OpenSpec.upto fnFmtbufWriteSplitInvariantSpec)) fnFmtbufWriteSplitInvariantUptoCard
end Rows
end Go.Proofs.YtegidggehpbkmaaDoor
