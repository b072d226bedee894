/-
  NARROWER THAN 'FOR EVERY INPUT', by the rows' own cells (each row's printed sentence says how): FnInheritedIndexSetRefusedAndHarmless: ifaces, laid.
  DERIVED. THE GIVEN ROWS OF THIS SEAT. 1 by the template 'for every input the law returns true; each argument reads behind the call as it read before'; 0 by the template 'total and deterministic' (their statements: YtfcghckaikkjbaaDoorTotals.lean).
  GIVEN WITH THE SEED: the statements are not yours to turn. If you find one false, say at which input.
  Laid BY PROGRAM, IN A SANDBOX (cutbox-rows.mjs): the forced cells as the released guide's own fill.sh prints them over the translation 42899ce051e5a280… (all of the seat's roots in one cut). By AI agents, Wed Nov 11 2026. No macro, syntax, notation, axiom, sorry.
-/
import Derived.Test.YtfcghckaikkjbaaDoorChecked
import GoSem.Claim
import GoSem.ClaimJoined
import GoSem.ClaimMapViews
import Derived.JoinedTies
import Derived.KernelRfl
namespace Go.Proofs.YtfcghckaikkjbaaDoor
/- THE CELL 'sum', in the pinned program and in every row, IS THE sha256 OF THE DUMP (.gsa) THAT YtfcghckaikkjbaaDoorProg.lean LOADS. Nothing in Lean hashes anything: it is a label: what it is worth is what the hold of that sum in a sandbox is worth. -/
noncomputable def Tryd.pinned : Pinned := { name := "ytfcghckaikkjbaadoor", sum := "42899ce051e5a280584301aa15c4ecd9fab77d9b66cb559a8c7326ccc38d6c8c", checked := Tryd.checked }
namespace Rows
def none {H : Type} : Left H := { results := [], args := [] }

/- WHAT THE LISTED PACKAGE-LEVEL VARIABLES READ AS WHEN THE CALL BEGINS. Each datum BY PROGRAM (the guide's laid-datum.mjs) off the statement by which the dump's own 'gosem.cut.vars' lays the variable. In a bare row this is a premise. The card (YtfcghckaikkjbaaDoorCards.lean) ties it to the program's text. -/
def laid_github_com_d5_tengo_v2_ErrNotIndexAssignable {H : Type} : DataW H := .iface "*errors.errorString" (.ptr (.agg [.lit (.string [110, 111, 116, 32, 105, 110, 100, 101, 120, 45, 97, 115, 115, 105, 103, 110, 97, 98, 108, 101])]))

/-- 'n002_16.FnInheritedIndexSetRefusedAndHarmless': WHATEVER THE INPUT: true; the input reads as it did. -/
def fnInheritedIndexSetRefusedAndHarmlessSpec : ChangeSpec := { name := "fnInheritedIndexSetRefusedAndHarmless", vars := ["github.com/d5/tengo/v2.ErrNotIndexAssignable"], fn := fun _ => fun
  | [d1, d2, d3, d4, g1] => { results := [.lit (.bool true)], args := [d1, d2, d3, d4], vars := [g1] }
  | _ => none }
def fnInheritedIndexSetRefusedAndHarmlessRow : OpenClaim := { program := "ytfcghckaikkjbaadoor", sum := "42899ce051e5a280584301aa15c4ecd9fab77d9b66cb559a8c7326ccc38d6c8c", func := "github.com/d5/tengo/v2/n002_16.FnInheritedIndexSetRefusedAndHarmless", spec := "fnInheritedIndexSetRefusedAndHarmless", inPlace := ["internal/reflectlite.TypeOf"], unfollowed := true, recurses := true, named := ["github.com/d5/tengo/v2.ErrNotIndexAssignable"], ifaces := true, apart := false, laid := [("github.com/d5/tengo/v2.ErrNotIndexAssignable", laid_github_com_d5_tengo_v2_ErrNotIndexAssignable)] }
def FnInheritedIndexSetRefusedAndHarmlessSaid : Prop := fnInheritedIndexSetRefusedAndHarmlessRow.holds Tryd.pinned (OpenSpec.ofChange fnInheritedIndexSetRefusedAndHarmlessSpec)

/-- ITS FALSE NEIGHBOUR: 'it returns false'. Refute it at one input. -/
def fnInheritedIndexSetRefusedAndHarmlessWrong : ChangeSpec := { name := "fnInheritedIndexSetRefusedAndHarmless", vars := ["github.com/d5/tengo/v2.ErrNotIndexAssignable"], fn := fun _ => fun
  | [d1, d2, d3, d4, g1] => { results := [.lit (.bool false)], args := [d1, d2, d3, d4], vars := [g1] }
  | _ => none }
def FnInheritedIndexSetRefusedAndHarmlessWrongFalsely : Prop := fnInheritedIndexSetRefusedAndHarmlessRow.holds Tryd.pinned (OpenSpec.ofChange fnInheritedIndexSetRefusedAndHarmlessWrong)

/- THE SECOND FORM. 'bulk': how many values and letters a reading holds, each counted each time it is reached (what is shared counts as often as it is met; a slice's spare places count too). A statement '..UptoSaid' is the law's where the arguments, and the package variables that the reading takes, are together of bulk at most 1048576: NARROWER than '..Said'. Prove '..Said' where nothing that the law and all that it calls make is longer than what came in: it says more and counts as full. Else prove '..UptoSaid'. A law counts once. -/
mutual
def uptoBulk {H : Type} : DataW H → Nat
  | .lit (.string bytes) => bytes.length + 1
  | .lit _ => 1
  | .nil => 1
  | .ptr d => uptoBulk d + 1
  | .slice elems spare => uptoBulkAll elems + uptoBulkAll spare + 1
  | .agg parts => uptoBulkAll parts + 1
  | .iface _ d => uptoBulk d + 1
  | .map entries => uptoBulkEntries entries + 1
  | .held _ => 1
def uptoBulkAll {H : Type} : List (DataW H) → Nat
  | [] => 0
  | d :: r => uptoBulk d + uptoBulkAll r
def uptoBulkEntries {H : Type} : List (Lit × DataW H) → Nat
  | [] => 0
  | x :: r => uptoBulkEntry x + uptoBulkEntries r
def uptoBulkEntry {H : Type} : Lit × DataW H → Nat
  | (.string bytes, d) => bytes.length + uptoBulk d + 1
  | (_, d) => uptoBulk d + 1
 end
def uptoSmall : (H : Type) → List (DataW H) → Bool := fun _ ds => decide (uptoBulkAll ds ≤ 1048576)
def OpenSpec.upto (s : _root_.Go.ChangeSpec) : _root_.Go.OpenSpec := { _root_.Go.OpenSpec.ofChange s with cond := some uptoSmall }

/-- 'n002_16.FnInheritedIndexSetRefusedAndHarmless', WHERE WHAT IT READS IS OF BULK AT MOST 1048576: true; the input reads as it did. -/
def fnInheritedIndexSetRefusedAndHarmlessUptoRow : OpenClaim := { program := "ytfcghckaikkjbaadoor", sum := "42899ce051e5a280584301aa15c4ecd9fab77d9b66cb559a8c7326ccc38d6c8c", func := "github.com/d5/tengo/v2/n002_16.FnInheritedIndexSetRefusedAndHarmless", spec := "fnInheritedIndexSetRefusedAndHarmless", inPlace := ["internal/reflectlite.TypeOf"], unfollowed := true, recurses := true, named := ["github.com/d5/tengo/v2.ErrNotIndexAssignable"], ifaces := true, apart := false, laid := [("github.com/d5/tengo/v2.ErrNotIndexAssignable", laid_github_com_d5_tengo_v2_ErrNotIndexAssignable)], narrowed := true }
def FnInheritedIndexSetRefusedAndHarmlessUptoSaid : Prop := fnInheritedIndexSetRefusedAndHarmlessUptoRow.holds Tryd.pinned (OpenSpec.upto fnInheritedIndexSetRefusedAndHarmlessSpec)

end Rows
end Go.Proofs.YtfcghckaikkjbaaDoor
