/-
  DERIVED. GIVEN WITH THE SEED: THE CARDS: each row of YtmpdcljnghaekaaDoorRows.lean that lists a variable, with what it lists TIED to the program's text (the seventh form; the later family's looks); each row that meets fmt, with fmt's text TOLD by the authors' own Lean function (tested against real Go, not proved from fmt's source: count such statements apart). THE CARD IS WHAT COUNTS. Prove the row's statement (the work); the ties are given (YtmpdcljnghaekaaDoorTie.lean); close each card by the builder's one call (the guide's Derived/Test/ToyasCard.lean, 'card_holds'). Laid BY PROGRAM, IN A SANDBOX (cutbox-door.mjs). By AI agents, Wed Nov 11 2026. No macro, syntax, notation, axiom, sorry.
-/
import Derived.Test.YtmpdcljnghaekaaDoorRows
import GoSem.ClaimSeven
namespace Go.Proofs.YtmpdcljnghaekaaDoor
namespace Rows

/-- THE TIED CARD OF 'n002_152.FnPadStringExact'. -/
def fnPadStringExactCard : Claim7 := { stood := { row := fnPadStringExactRow, standIns := [], harness := (true, "8041c62bc52cc0d03d6b6b44257e3ca9b827b47c8742164b965c46b7f367257a"), looks := false }, kinds := [], alts := [], laidByText := true, laidKinds := [.sentinel, .data], laidTests := true, laidLooks := .later }
def FnPadStringExactCardSaid : Prop := Claim7.holds Tryd.pinned (.plain (OpenSpec.ofChange fnPadStringExactSpec)) fnPadStringExactCard

/-- THE TIED CARD OF 'n002_152.FnClearFlagsThenPadStringWritesPlain'. -/
def fnClearFlagsThenPadStringWritesPlainCard : Claim7 := { stood := { row := fnClearFlagsThenPadStringWritesPlainRow, standIns := [], harness := (true, "8041c62bc52cc0d03d6b6b44257e3ca9b827b47c8742164b965c46b7f367257a"), looks := false }, kinds := [], alts := [], laidByText := true, laidKinds := [.sentinel, .data], laidTests := true, laidLooks := .later }
def FnClearFlagsThenPadStringWritesPlainCardSaid : Prop := Claim7.holds Tryd.pinned (.plain (OpenSpec.ofChange fnClearFlagsThenPadStringWritesPlainSpec)) fnClearFlagsThenPadStringWritesPlainCard

/-- THE TIED CARD OF 'n002_152.FnPadExact'. -/
def fnPadExactCard : Claim7 := { stood := { row := fnPadExactRow, standIns := [], harness := (true, "8041c62bc52cc0d03d6b6b44257e3ca9b827b47c8742164b965c46b7f367257a"), looks := false }, kinds := [], alts := [], laidByText := true, laidKinds := [.sentinel, .data], laidTests := true, laidLooks := .later }
def FnPadExactCardSaid : Prop := Claim7.holds Tryd.pinned (.plain (OpenSpec.ofChange fnPadExactSpec)) fnPadExactCard

/-- THE TIED CARD OF 'n002_152.FnWritePaddingExact'. -/
def fnWritePaddingExactCard : Claim7 := { stood := { row := fnWritePaddingExactRow, standIns := [], harness := (true, "8041c62bc52cc0d03d6b6b44257e3ca9b827b47c8742164b965c46b7f367257a"), looks := false }, kinds := [], alts := [], laidByText := true, laidKinds := [.sentinel, .data], laidTests := true, laidLooks := .later }
def FnWritePaddingExactCardSaid : Prop := Claim7.holds Tryd.pinned (.plain (OpenSpec.ofChange fnWritePaddingExactSpec)) fnWritePaddingExactCard

/-- THE TIED CARD OF 'n002_152.FnPadAgreesWithPadString'. -/
def fnPadAgreesWithPadStringCard : Claim7 := { stood := { row := fnPadAgreesWithPadStringRow, standIns := [], harness := (true, "8041c62bc52cc0d03d6b6b44257e3ca9b827b47c8742164b965c46b7f367257a"), looks := false }, kinds := [], alts := [], laidByText := true, laidKinds := [.sentinel, .data], laidTests := true, laidLooks := .later }
def FnPadAgreesWithPadStringCardSaid : Prop := Claim7.holds Tryd.pinned (.plain (OpenSpec.ofChange fnPadAgreesWithPadStringSpec)) fnPadAgreesWithPadStringCard

/-- THE TIED CARD OF 'n002_152.FnPadStringWidthHonoured'. -/
def fnPadStringWidthHonouredCard : Claim7 := { stood := { row := fnPadStringWidthHonouredRow, standIns := [], harness := (true, "8041c62bc52cc0d03d6b6b44257e3ca9b827b47c8742164b965c46b7f367257a"), looks := false }, kinds := [], alts := [], laidByText := true, laidKinds := [.sentinel, .data], laidTests := true, laidLooks := .later }
def FnPadStringWidthHonouredCardSaid : Prop := Claim7.holds Tryd.pinned (.plain (OpenSpec.ofChange fnPadStringWidthHonouredSpec)) fnPadStringWidthHonouredCard

/-- THE TIED CARD OF 'n002_152.FnWritePaddingAdditive'. -/
def fnWritePaddingAdditiveCard : Claim7 := { stood := { row := fnWritePaddingAdditiveRow, standIns := [], harness := (true, "8041c62bc52cc0d03d6b6b44257e3ca9b827b47c8742164b965c46b7f367257a"), looks := false }, kinds := [], alts := [], laidByText := true, laidKinds := [.sentinel, .data], laidTests := true, laidLooks := .later }
def FnWritePaddingAdditiveCardSaid : Prop := Claim7.holds Tryd.pinned (.plain (OpenSpec.ofChange fnWritePaddingAdditiveSpec)) fnWritePaddingAdditiveCard

/-- THE SECOND FORM's CARD OF 'n002_152.FnPadStringExact'. -/
def fnPadStringExactUptoCard : Claim7 := { stood := { row := fnPadStringExactUptoRow, standIns := [], harness := (true, "8041c62bc52cc0d03d6b6b44257e3ca9b827b47c8742164b965c46b7f367257a"), looks := false }, kinds := [], alts := [], laidByText := true, laidKinds := [.sentinel, .data], laidTests := true, laidLooks := .later }
def FnPadStringExactUptoCardSaid : Prop := Claim7.holds Tryd.pinned (.plain (OpenSpec.upto fnPadStringExactSpec)) fnPadStringExactUptoCard

/-- THE SECOND FORM's CARD OF 'n002_152.FnClearFlagsThenPadStringWritesPlain'. -/
def fnClearFlagsThenPadStringWritesPlainUptoCard : Claim7 := { stood := { row := fnClearFlagsThenPadStringWritesPlainUptoRow, standIns := [], harness := (true, "8041c62bc52cc0d03d6b6b44257e3ca9b827b47c8742164b965c46b7f367257a"), looks := false }, kinds := [], alts := [], laidByText := true, laidKinds := [.sentinel, .data], laidTests := true, laidLooks := .later }
def FnClearFlagsThenPadStringWritesPlainUptoCardSaid : Prop := Claim7.holds Tryd.pinned (.plain (OpenSpec.upto fnClearFlagsThenPadStringWritesPlainSpec)) fnClearFlagsThenPadStringWritesPlainUptoCard

/-- THE SECOND FORM's CARD OF 'n002_152.FnPadExact'. -/
def fnPadExactUptoCard : Claim7 := { stood := { row := fnPadExactUptoRow, standIns := [], harness := (true, "8041c62bc52cc0d03d6b6b44257e3ca9b827b47c8742164b965c46b7f367257a"), looks := false }, kinds := [], alts := [], laidByText := true, laidKinds := [.sentinel, .data], laidTests := true, laidLooks := .later }
def FnPadExactUptoCardSaid : Prop := Claim7.holds Tryd.pinned (.plain (OpenSpec.upto fnPadExactSpec)) fnPadExactUptoCard

/-- THE SECOND FORM's CARD OF 'n002_152.FnWritePaddingExact'. -/
def fnWritePaddingExactUptoCard : Claim7 := { stood := { row := fnWritePaddingExactUptoRow, standIns := [], harness := (true, "8041c62bc52cc0d03d6b6b44257e3ca9b827b47c8742164b965c46b7f367257a"), looks := false }, kinds := [], alts := [], laidByText := true, laidKinds := [.sentinel, .data], laidTests := true, laidLooks := .later }
def FnWritePaddingExactUptoCardSaid : Prop := Claim7.holds Tryd.pinned (.plain (OpenSpec.upto fnWritePaddingExactSpec)) fnWritePaddingExactUptoCard

/-- THE SECOND FORM's CARD OF 'n002_152.FnPadAgreesWithPadString'. -/
def fnPadAgreesWithPadStringUptoCard : Claim7 := { stood := { row := fnPadAgreesWithPadStringUptoRow, standIns := [], harness := (true, "8041c62bc52cc0d03d6b6b44257e3ca9b827b47c8742164b965c46b7f367257a"), looks := false }, kinds := [], alts := [], laidByText := true, laidKinds := [.sentinel, .data], laidTests := true, laidLooks := .later }
def FnPadAgreesWithPadStringUptoCardSaid : Prop := Claim7.holds Tryd.pinned (.plain (OpenSpec.upto fnPadAgreesWithPadStringSpec)) fnPadAgreesWithPadStringUptoCard

/-- THE SECOND FORM's CARD OF 'n002_152.FnPadStringWidthHonoured'. -/
def fnPadStringWidthHonouredUptoCard : Claim7 := { stood := { row := fnPadStringWidthHonouredUptoRow, standIns := [], harness := (true, "8041c62bc52cc0d03d6b6b44257e3ca9b827b47c8742164b965c46b7f367257a"), looks := false }, kinds := [], alts := [], laidByText := true, laidKinds := [.sentinel, .data], laidTests := true, laidLooks := .later }
def FnPadStringWidthHonouredUptoCardSaid : Prop := Claim7.holds Tryd.pinned (.plain (OpenSpec.upto fnPadStringWidthHonouredSpec)) fnPadStringWidthHonouredUptoCard

/-- THE SECOND FORM's CARD OF 'n002_152.FnWritePaddingAdditive'. -/
def fnWritePaddingAdditiveUptoCard : Claim7 := { stood := { row := fnWritePaddingAdditiveUptoRow, standIns := [], harness := (true, "8041c62bc52cc0d03d6b6b44257e3ca9b827b47c8742164b965c46b7f367257a"), looks := false }, kinds := [], alts := [], laidByText := true, laidKinds := [.sentinel, .data], laidTests := true, laidLooks := .later }
def FnWritePaddingAdditiveUptoCardSaid : Prop := Claim7.holds Tryd.pinned (.plain (OpenSpec.upto fnWritePaddingAdditiveSpec)) fnWritePaddingAdditiveUptoCard
end Rows
end Go.Proofs.YtmpdcljnghaekaaDoor
