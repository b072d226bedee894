/-
  No cell of these rows narrows 'for every input' (looked for: loops, veiled, ifaces, maps, wideKeys, modest, calm, conditions, laid).
  DERIVED. THE GIVEN ROWS OF THIS SEAT. 2 by the template 'for every input the law returns true; each argument reads behind the call as it read before'; 0 by the template 'total and deterministic' (their statements: YtfngjbeadakfaaaFmtTotals.lean).
  GIVEN WITH THE SEED: the statements are not yours to turn. If you find one false, say at which input.
  Laid BY PROGRAM, IN A SANDBOX (cutbox-rows.mjs): the forced cells as the released guide's own fill.sh prints them over the translation 0054ef68598e2a0c… (all of the seat's roots in one cut). By AI agents, Wed Nov 11 2026. No macro, syntax, notation, axiom, sorry.
-/
import Derived.Test.YtfngjbeadakfaaaFmtChecked
import GoSem.Claim
import GoSem.ClaimJoined
import GoSem.ClaimMapViews
import Derived.JoinedTies
import Derived.KernelRfl
namespace Go.Proofs.YtfngjbeadakfaaaFmt
/- THE CELL 'sum', in the pinned program and in every row, IS THE sha256 OF THE DUMP (.gsa) THAT YtfngjbeadakfaaaFmtProg.lean LOADS. Nothing in Lean hashes anything: it is a label: what it is worth is what the hold of that sum in a sandbox is worth. -/
noncomputable def Tryf.pinned : Pinned := { name := "ytfngjbeadakfaaafmt", sum := "0054ef68598e2a0c29374c41e9390cac6b300861dc62e4c5487c5e4a0101c563", checked := Tryf.checked }
namespace Rows
def none {H : Type} : Left H := { results := [], args := [] }

/-- 'n002_39.FnCheckCyclicImportsOrderFree': WHATEVER THE INPUT: true; the input reads as it did. -/
def fnCheckCyclicImportsOrderFreeSpec : ChangeSpec := { name := "fnCheckCyclicImportsOrderFree", fn := fun _ => fun
  | [d1, d2] => { results := [.lit (.bool true)], args := [d1, d2] }
  | _ => none }
def fnCheckCyclicImportsOrderFreeRow : OpenClaim := { program := "ytfngjbeadakfaaafmt", sum := "0054ef68598e2a0c29374c41e9390cac6b300861dc62e4c5487c5e4a0101c563", func := "github.com/d5/tengo/v2/n002_39.FnCheckCyclicImportsOrderFree", spec := "fnCheckCyclicImportsOrderFree", stops := ["fmt.errorf, its operands' methods called", "fmt.Sprintf, its operands' methods called"], inPlace := ["fmt.errorf"], unfollowed := true, recurses := true, apart := false }
/-- NO THEOREM (fmt's text is open here; it may be false): for the released tool's asking of the row's closed facts alone. THE STATEMENT IS 'FnCheckCyclicImportsOrderFreeToldSaid' (YtfngjbeadakfaaaFmtCards.lean). -/
def FnCheckCyclicImportsOrderFreeFormAsk : Prop := fnCheckCyclicImportsOrderFreeRow.holds Tryf.pinned (OpenSpec.ofChange fnCheckCyclicImportsOrderFreeSpec)

/-- ITS FALSE NEIGHBOUR: 'it returns false'. Refute it at one input. -/
def fnCheckCyclicImportsOrderFreeWrong : ChangeSpec := { name := "fnCheckCyclicImportsOrderFree", fn := fun _ => fun
  | [d1, d2] => { results := [.lit (.bool false)], args := [d1, d2] }
  | _ => none }
def FnCheckCyclicImportsOrderFreeWrongFormAsk : Prop := fnCheckCyclicImportsOrderFreeRow.holds Tryf.pinned (OpenSpec.ofChange fnCheckCyclicImportsOrderFreeWrong)

/-- 'n002_39.FnCheckCyclicImportsExact': WHATEVER THE INPUT: true; the input reads as it did. -/
def fnCheckCyclicImportsExactSpec : ChangeSpec := { name := "fnCheckCyclicImportsExact", fn := fun _ => fun
  | [d1, d2] => { results := [.lit (.bool true)], args := [d1, d2] }
  | _ => none }
def fnCheckCyclicImportsExactRow : OpenClaim := { program := "ytfngjbeadakfaaafmt", sum := "0054ef68598e2a0c29374c41e9390cac6b300861dc62e4c5487c5e4a0101c563", func := "github.com/d5/tengo/v2/n002_39.FnCheckCyclicImportsExact", spec := "fnCheckCyclicImportsExact", stops := ["fmt.errorf, its operands' methods called", "fmt.Sprintf, its operands' methods called"], inPlace := ["fmt.errorf"], unfollowed := true, recurses := true, apart := false }
/-- NO THEOREM (fmt's text is open here; it may be false): for the released tool's asking of the row's closed facts alone. THE STATEMENT IS 'FnCheckCyclicImportsExactToldSaid' (YtfngjbeadakfaaaFmtCards.lean). -/
def FnCheckCyclicImportsExactFormAsk : Prop := fnCheckCyclicImportsExactRow.holds Tryf.pinned (OpenSpec.ofChange fnCheckCyclicImportsExactSpec)

/-- ITS FALSE NEIGHBOUR: 'it returns false'. Refute it at one input. -/
def fnCheckCyclicImportsExactWrong : ChangeSpec := { name := "fnCheckCyclicImportsExact", fn := fun _ => fun
  | [d1, d2] => { results := [.lit (.bool false)], args := [d1, d2] }
  | _ => none }
def FnCheckCyclicImportsExactWrongFormAsk : Prop := fnCheckCyclicImportsExactRow.holds Tryf.pinned (OpenSpec.ofChange fnCheckCyclicImportsExactWrong)

end Rows
end Go.Proofs.YtfngjbeadakfaaaFmt
