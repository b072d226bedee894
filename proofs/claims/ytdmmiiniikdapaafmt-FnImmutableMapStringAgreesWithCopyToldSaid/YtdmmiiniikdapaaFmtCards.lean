/-
  DERIVED. GIVEN WITH THE SEED: THE CARDS: each row of YtdmmiiniikdapaaFmtRows.lean that lists a variable, with what it lists TIED to the program's text (the seventh form; the later family's looks); each row that meets fmt, with fmt's text TOLD by the authors' own Lean function (tested against real Go, not proved from fmt's source: count such statements apart). THE CARD IS WHAT COUNTS. Prove the row's statement (the work); the ties are given (YtdmmiiniikdapaaFmtTie.lean); close each card by the builder's one call (the guide's Derived/Test/ToyasCard.lean, 'card_holds'). Laid BY PROGRAM, IN A SANDBOX (cutbox-door.mjs). By AI agents, Wed Nov 11 2026. No macro, syntax, notation, axiom, sorry.
-/
import Derived.Test.YtdmmiiniikdapaaFmtRows
import GoSem.ClaimSeven
namespace Go.Proofs.YtdmmiiniikdapaaFmt
namespace Rows

/-- THE TOLD CARD OF 'n002_67.FnImmutableMapStringSpec'. -/
def fnImmutableMapStringSpecCard : Claim7 := { stood := { row := fnImmutableMapStringSpecRow, standIns := [], harness := (true, "7fe419b2743fd2f7afec95bf20253348bd0bfceecc8dc14676ace935748001bc"), looks := false }, told := true, goes := false }
def FnImmutableMapStringSpecToldSaid : Prop := Claim7.holds Tryf.pinned (.plain (OpenSpec.ofChange fnImmutableMapStringSpecSpec)) fnImmutableMapStringSpecCard
/-- ITS FALSE NEIGHBOUR. Refute it at one input. -/
def FnImmutableMapStringSpecToldWrongFalsely : Prop := Claim7.holds Tryf.pinned (.plain (OpenSpec.ofChange fnImmutableMapStringSpecWrong)) fnImmutableMapStringSpecCard

/-- THE TOLD CARD OF 'n002_67.FnImmutableMapStringAgreesWithCopy'. -/
def fnImmutableMapStringAgreesWithCopyCard : Claim7 := { stood := { row := fnImmutableMapStringAgreesWithCopyRow, standIns := [], harness := (true, "7fe419b2743fd2f7afec95bf20253348bd0bfceecc8dc14676ace935748001bc"), looks := false }, told := true, goes := false }
def FnImmutableMapStringAgreesWithCopyToldSaid : Prop := Claim7.holds Tryf.pinned (.plain (OpenSpec.ofChange fnImmutableMapStringAgreesWithCopySpec)) fnImmutableMapStringAgreesWithCopyCard
/-- ITS FALSE NEIGHBOUR. Refute it at one input. -/
def FnImmutableMapStringAgreesWithCopyToldWrongFalsely : Prop := Claim7.holds Tryf.pinned (.plain (OpenSpec.ofChange fnImmutableMapStringAgreesWithCopyWrong)) fnImmutableMapStringAgreesWithCopyCard
end Rows
end Go.Proofs.YtdmmiiniikdapaaFmt
