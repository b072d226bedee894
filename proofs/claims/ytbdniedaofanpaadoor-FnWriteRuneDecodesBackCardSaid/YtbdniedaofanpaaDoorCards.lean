/-
  DERIVED. GIVEN WITH THE SEED: THE CARDS: each row of YtbdniedaofanpaaDoorRows.lean that lists a variable, with what it lists TIED to the program's text (the seventh form; the later family's looks); each row that meets fmt, with fmt's text TOLD by the authors' own Lean function (tested against real Go, not proved from fmt's source: count such statements apart). THE CARD IS WHAT COUNTS. Prove the row's statement (the work); the ties are given (YtbdniedaofanpaaDoorTie.lean); close each card by the builder's one call (the guide's Derived/Test/ToyasCard.lean, 'card_holds'). Laid BY PROGRAM, IN A SANDBOX (cutbox-door.mjs). By AI agents, Wed Nov 11 2026. No macro, syntax, notation, axiom, sorry.
-/
import Derived.Test.YtbdniedaofanpaaDoorRows
import GoSem.ClaimSeven
namespace Go.Proofs.YtbdniedaofanpaaDoor
namespace Rows

/-- THE TIED CARD OF 'n002_40.FnWriteRuneMatchesModel'. -/
def fnWriteRuneMatchesModelCard : Claim7 := { stood := { row := fnWriteRuneMatchesModelRow, standIns := [], harness := (true, "4144736e68e2502ce4a8b6f687906b9aeaf31b2ddf68d2f6f347d6d08979921e"), looks := false }, kinds := [], alts := [], laidByText := true, laidKinds := [.sentinel, .data], laidTests := true, laidLooks := .later }
def FnWriteRuneMatchesModelCardSaid : Prop := Claim7.holds Tryd.pinned (.plain (OpenSpec.ofChange fnWriteRuneMatchesModelSpec)) fnWriteRuneMatchesModelCard

/-- THE TIED CARD OF 'n002_40.FnWriteSingleByteAppends'. -/
def fnWriteSingleByteAppendsCard : Claim7 := { stood := { row := fnWriteSingleByteAppendsRow, standIns := [], harness := (true, "4144736e68e2502ce4a8b6f687906b9aeaf31b2ddf68d2f6f347d6d08979921e"), looks := false }, kinds := [], alts := [], laidByText := true, laidKinds := [.sentinel, .data], laidTests := true, laidLooks := .later }
def FnWriteSingleByteAppendsCardSaid : Prop := Claim7.holds Tryd.pinned (.plain (OpenSpec.ofChange fnWriteSingleByteAppendsSpec)) fnWriteSingleByteAppendsCard

/-- THE TIED CARD OF 'n002_40.FnWriteSingleByteAgreesWithWrite'. -/
def fnWriteSingleByteAgreesWithWriteCard : Claim7 := { stood := { row := fnWriteSingleByteAgreesWithWriteRow, standIns := [], harness := (true, "4144736e68e2502ce4a8b6f687906b9aeaf31b2ddf68d2f6f347d6d08979921e"), looks := false }, kinds := [], alts := [], laidByText := true, laidKinds := [.sentinel, .data], laidTests := true, laidLooks := .later }
def FnWriteSingleByteAgreesWithWriteCardSaid : Prop := Claim7.holds Tryd.pinned (.plain (OpenSpec.ofChange fnWriteSingleByteAgreesWithWriteSpec)) fnWriteSingleByteAgreesWithWriteCard

/-- THE TIED CARD OF 'n002_40.FnWriteRuneDecodesBack'. -/
def fnWriteRuneDecodesBackCard : Claim7 := { stood := { row := fnWriteRuneDecodesBackRow, standIns := [], harness := (true, "4144736e68e2502ce4a8b6f687906b9aeaf31b2ddf68d2f6f347d6d08979921e"), looks := false }, kinds := [], alts := [], laidByText := true, laidKinds := [.sentinel, .data], laidTests := true, laidLooks := .later }
def FnWriteRuneDecodesBackCardSaid : Prop := Claim7.holds Tryd.pinned (.plain (OpenSpec.ofChange fnWriteRuneDecodesBackSpec)) fnWriteRuneDecodesBackCard

/-- THE SECOND FORM's CARD OF 'n002_40.FnWriteRuneMatchesModel'. -/
def fnWriteRuneMatchesModelUptoCard : Claim7 := { stood := { row := fnWriteRuneMatchesModelUptoRow, standIns := [], harness := (true, "4144736e68e2502ce4a8b6f687906b9aeaf31b2ddf68d2f6f347d6d08979921e"), looks := false }, kinds := [], alts := [], laidByText := true, laidKinds := [.sentinel, .data], laidTests := true, laidLooks := .later }
def FnWriteRuneMatchesModelUptoCardSaid : Prop := Claim7.holds Tryd.pinned (.plain (OpenSpec.upto fnWriteRuneMatchesModelSpec)) fnWriteRuneMatchesModelUptoCard

/-- THE SECOND FORM's CARD OF 'n002_40.FnWriteSingleByteAppends'. -/
def fnWriteSingleByteAppendsUptoCard : Claim7 := { stood := { row := fnWriteSingleByteAppendsUptoRow, standIns := [], harness := (true, "4144736e68e2502ce4a8b6f687906b9aeaf31b2ddf68d2f6f347d6d08979921e"), looks := false }, kinds := [], alts := [], laidByText := true, laidKinds := [.sentinel, .data], laidTests := true, laidLooks := .later }
def FnWriteSingleByteAppendsUptoCardSaid : Prop := Claim7.holds Tryd.pinned (.plain (OpenSpec.upto fnWriteSingleByteAppendsSpec)) fnWriteSingleByteAppendsUptoCard

/-- THE SECOND FORM's CARD OF 'n002_40.FnWriteSingleByteAgreesWithWrite'. -/
def fnWriteSingleByteAgreesWithWriteUptoCard : Claim7 := { stood := { row := fnWriteSingleByteAgreesWithWriteUptoRow, standIns := [], harness := (true, "4144736e68e2502ce4a8b6f687906b9aeaf31b2ddf68d2f6f347d6d08979921e"), looks := false }, kinds := [], alts := [], laidByText := true, laidKinds := [.sentinel, .data], laidTests := true, laidLooks := .later }
def FnWriteSingleByteAgreesWithWriteUptoCardSaid : Prop := Claim7.holds Tryd.pinned (.plain (OpenSpec.upto fnWriteSingleByteAgreesWithWriteSpec)) fnWriteSingleByteAgreesWithWriteUptoCard

/-- THE SECOND FORM's CARD OF 'n002_40.FnWriteRuneDecodesBack'. -/
def fnWriteRuneDecodesBackUptoCard : Claim7 := { stood := { row := fnWriteRuneDecodesBackUptoRow, standIns := [], harness := (true, "4144736e68e2502ce4a8b6f687906b9aeaf31b2ddf68d2f6f347d6d08979921e"), looks := false }, kinds := [], alts := [], laidByText := true, laidKinds := [.sentinel, .data], laidTests := true, laidLooks := .later }
def FnWriteRuneDecodesBackUptoCardSaid : Prop := Claim7.holds Tryd.pinned (.plain (OpenSpec.upto fnWriteRuneDecodesBackSpec)) fnWriteRuneDecodesBackUptoCard
end Rows
end Go.Proofs.YtbdniedaofanpaaDoor
