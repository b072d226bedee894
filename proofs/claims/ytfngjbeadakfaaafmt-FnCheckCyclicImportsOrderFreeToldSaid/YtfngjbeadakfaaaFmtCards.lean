/-
  DERIVED. GIVEN WITH THE SEED: THE CARDS: each row of YtfngjbeadakfaaaFmtRows.lean that lists a variable, with what it lists TIED to the program's text (the seventh form; the later family's looks); each row that meets fmt, with fmt's text TOLD by the authors' own Lean function (tested against real Go, not proved from fmt's source: count such statements apart). THE CARD IS WHAT COUNTS. Prove the row's statement (the work); the ties are given (YtfngjbeadakfaaaFmtTie.lean); close each card by the builder's one call (the guide's Derived/Test/ToyasCard.lean, 'card_holds'). Laid BY PROGRAM, IN A SANDBOX (cutbox-door.mjs). By AI agents, Wed Nov 11 2026. No macro, syntax, notation, axiom, sorry.
-/
import Derived.Test.YtfngjbeadakfaaaFmtRows
import GoSem.ClaimSeven
namespace Go.Proofs.YtfngjbeadakfaaaFmt
namespace Rows

/-- THE TOLD CARD OF 'n002_39.FnCheckCyclicImportsOrderFree'. -/
def fnCheckCyclicImportsOrderFreeCard : Claim7 := { stood := { row := fnCheckCyclicImportsOrderFreeRow, standIns := [], harness := (true, "315dfa288ee96f23aaa213d375070ad5bfb0fad3f63b422f0d2f4af05448821a"), looks := false }, told := true, goes := false }
def FnCheckCyclicImportsOrderFreeToldSaid : Prop := Claim7.holds Tryf.pinned (.plain (OpenSpec.ofChange fnCheckCyclicImportsOrderFreeSpec)) fnCheckCyclicImportsOrderFreeCard
/-- ITS FALSE NEIGHBOUR. Refute it at one input. -/
def FnCheckCyclicImportsOrderFreeToldWrongFalsely : Prop := Claim7.holds Tryf.pinned (.plain (OpenSpec.ofChange fnCheckCyclicImportsOrderFreeWrong)) fnCheckCyclicImportsOrderFreeCard

/-- THE TOLD CARD OF 'n002_39.FnCheckCyclicImportsExact'. -/
def fnCheckCyclicImportsExactCard : Claim7 := { stood := { row := fnCheckCyclicImportsExactRow, standIns := [], harness := (true, "315dfa288ee96f23aaa213d375070ad5bfb0fad3f63b422f0d2f4af05448821a"), looks := false }, told := true, goes := false }
def FnCheckCyclicImportsExactToldSaid : Prop := Claim7.holds Tryf.pinned (.plain (OpenSpec.ofChange fnCheckCyclicImportsExactSpec)) fnCheckCyclicImportsExactCard
/-- ITS FALSE NEIGHBOUR. Refute it at one input. -/
def FnCheckCyclicImportsExactToldWrongFalsely : Prop := Claim7.holds Tryf.pinned (.plain (OpenSpec.ofChange fnCheckCyclicImportsExactWrong)) fnCheckCyclicImportsExactCard
end Rows
end Go.Proofs.YtfngjbeadakfaaaFmt
