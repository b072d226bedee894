/-
  No cell of these rows narrows 'for every input' (looked for: loops, veiled, ifaces, maps, wideKeys, modest, calm, conditions, laid).
  DERIVED. THE GIVEN ROWS OF THIS SEAT. 2 by the template 'for every input the law returns true; each argument reads behind the call as it read before'; 0 by the template 'total and deterministic' (their statements: YtdmmiiniikdapaaFmtTotals.lean).
  GIVEN WITH THE SEED: the statements are not yours to turn. If you find one false, say at which input.
  Laid BY PROGRAM, IN A SANDBOX (cutbox-rows.mjs): the forced cells as the released guide's own fill.sh prints them over the translation b8a5f36e66343519… (all of the seat's roots in one cut). By AI agents, Wed Nov 11 2026. No macro, syntax, notation, axiom, sorry.
-/
import Derived.Test.YtdmmiiniikdapaaFmtChecked
import GoSem.Claim
import GoSem.ClaimJoined
import GoSem.ClaimMapViews
import Derived.JoinedTies
import Derived.KernelRfl
namespace Go.Proofs.YtdmmiiniikdapaaFmt
/- THE CELL 'sum', in the pinned program and in every row, IS THE sha256 OF THE DUMP (.gsa) THAT YtdmmiiniikdapaaFmtProg.lean LOADS. Nothing in Lean hashes anything: it is a label: what it is worth is what the hold of that sum in a sandbox is worth. -/
noncomputable def Tryf.pinned : Pinned := { name := "ytdmmiiniikdapaafmt", sum := "b8a5f36e66343519a2f06b6a3c72b92a4dcaed4538efb8d8ecdc88332df5f1c2", checked := Tryf.checked }
namespace Rows
def none {H : Type} : Left H := { results := [], args := [] }

/-- 'n002_67.FnImmutableMapStringSpec': WHATEVER THE INPUT: true; the input reads as it did. -/
def fnImmutableMapStringSpecSpec : ChangeSpec := { name := "fnImmutableMapStringSpec", fn := fun _ => fun
  | [d1, d2] => { results := [.lit (.bool true)], args := [d1, d2] }
  | _ => none }
def fnImmutableMapStringSpecRow : OpenClaim := { program := "ytdmmiiniikdapaafmt", sum := "b8a5f36e66343519a2f06b6a3c72b92a4dcaed4538efb8d8ecdc88332df5f1c2", func := "github.com/d5/tengo/v2/n002_67.FnImmutableMapStringSpec", spec := "fnImmutableMapStringSpec", stops := ["fmt.Sprintf"], inPlace := ["fmt.Sprintf", "internal/abi.NoEscape", "internal/bytealg.MakeNoZero"], unfollowed := true, recurses := true, apart := false }
/-- NO THEOREM (fmt's text is open here; it may be false): for the released tool's asking of the row's closed facts alone. THE STATEMENT IS 'FnImmutableMapStringSpecToldSaid' (YtdmmiiniikdapaaFmtCards.lean). -/
def FnImmutableMapStringSpecFormAsk : Prop := fnImmutableMapStringSpecRow.holds Tryf.pinned (OpenSpec.ofChange fnImmutableMapStringSpecSpec)

/-- ITS FALSE NEIGHBOUR: 'it returns false'. Refute it at one input. -/
def fnImmutableMapStringSpecWrong : ChangeSpec := { name := "fnImmutableMapStringSpec", fn := fun _ => fun
  | [d1, d2] => { results := [.lit (.bool false)], args := [d1, d2] }
  | _ => none }
def FnImmutableMapStringSpecWrongFormAsk : Prop := fnImmutableMapStringSpecRow.holds Tryf.pinned (OpenSpec.ofChange fnImmutableMapStringSpecWrong)

/-- 'n002_67.FnImmutableMapStringAgreesWithCopy': WHATEVER THE INPUT: true; the input reads as it did. -/
def fnImmutableMapStringAgreesWithCopySpec : ChangeSpec := { name := "fnImmutableMapStringAgreesWithCopy", fn := fun _ => fun
  | [d1, d2] => { results := [.lit (.bool true)], args := [d1, d2] }
  | _ => none }
def fnImmutableMapStringAgreesWithCopyRow : OpenClaim := { program := "ytdmmiiniikdapaafmt", sum := "b8a5f36e66343519a2f06b6a3c72b92a4dcaed4538efb8d8ecdc88332df5f1c2", func := "github.com/d5/tengo/v2/n002_67.FnImmutableMapStringAgreesWithCopy", spec := "fnImmutableMapStringAgreesWithCopy", stops := ["fmt.Sprintf"], inPlace := ["fmt.Sprintf", "internal/abi.NoEscape", "internal/bytealg.MakeNoZero"], unfollowed := true, recurses := true, apart := false }
/-- NO THEOREM (fmt's text is open here; it may be false): for the released tool's asking of the row's closed facts alone. THE STATEMENT IS 'FnImmutableMapStringAgreesWithCopyToldSaid' (YtdmmiiniikdapaaFmtCards.lean). -/
def FnImmutableMapStringAgreesWithCopyFormAsk : Prop := fnImmutableMapStringAgreesWithCopyRow.holds Tryf.pinned (OpenSpec.ofChange fnImmutableMapStringAgreesWithCopySpec)

/-- ITS FALSE NEIGHBOUR: 'it returns false'. Refute it at one input. -/
def fnImmutableMapStringAgreesWithCopyWrong : ChangeSpec := { name := "fnImmutableMapStringAgreesWithCopy", fn := fun _ => fun
  | [d1, d2] => { results := [.lit (.bool false)], args := [d1, d2] }
  | _ => none }
def FnImmutableMapStringAgreesWithCopyWrongFormAsk : Prop := fnImmutableMapStringAgreesWithCopyRow.holds Tryf.pinned (OpenSpec.ofChange fnImmutableMapStringAgreesWithCopyWrong)

end Rows
end Go.Proofs.YtdmmiiniikdapaaFmt
