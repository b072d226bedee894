/-
  NARROWER THAN 'FOR EVERY INPUT', by the rows' own cells (each row's printed sentence says how): FnLenCountsElements: ifaces, laid.
  DERIVED. THE GIVEN ROWS OF THIS SEAT. 1 by the template 'for every input the law returns true; each argument reads behind the call as it read before'; 0 by the template 'total and deterministic' (their statements: YtdcafjjglgceaacDoorTotals.lean).
  GIVEN WITH THE SEED: the statements are not yours to turn. If you find one false, say at which input.
  Laid BY PROGRAM, IN A SANDBOX (cutbox-rows.mjs): the forced cells as the released guide's own fill.sh prints them over the translation e4a0270a0116b1f8… (all of the seat's roots in one cut). By AI agents, Wed Nov 11 2026. No macro, syntax, notation, axiom, sorry.
-/
import Derived.Test.YtdcafjjglgceaacDoorChecked
import GoSem.Claim
import GoSem.ClaimJoined
import GoSem.ClaimMapViews
import Derived.JoinedTies
import Derived.KernelRfl
namespace Go.Proofs.YtdcafjjglgceaacDoor
/- THE CELL 'sum', in the pinned program and in every row, IS THE sha256 OF THE DUMP (.gsa) THAT YtdcafjjglgceaacDoorProg.lean LOADS. Nothing in Lean hashes anything: it is a label: what it is worth is what the hold of that sum in a sandbox is worth. -/
noncomputable def Tryd.pinned : Pinned := { name := "ytdcafjjglgceaacdoor", sum := "e4a0270a0116b1f88249023cb2cefdfa26d65e9aed51b3365dbb97de3cec0c28", checked := Tryd.checked }
namespace Rows
def none {H : Type} : Left H := { results := [], args := [] }

/- WHAT THE LISTED PACKAGE-LEVEL VARIABLES READ AS WHEN THE CALL BEGINS. Each datum BY PROGRAM (the guide's laid-datum.mjs) off the statement by which the dump's own 'gosem.cut.vars' lays the variable. In a bare row this is a premise. The card (YtdcafjjglgceaacDoorCards.lean) ties it to the program's text. -/
def laid_github_com_d5_tengo_v2_ErrWrongNumArguments {H : Type} : DataW H := .iface "*errors.errorString" (.ptr (.agg [.lit (.string [119, 114, 111, 110, 103, 32, 110, 117, 109, 98, 101, 114, 32, 111, 102, 32, 97, 114, 103, 117, 109, 101, 110, 116, 115])]))

/-- 'n002_54.FnLenCountsElements': WHATEVER THE INPUT: true; the input reads as it did. -/
def fnLenCountsElementsSpec : ChangeSpec := { name := "fnLenCountsElements", vars := ["github.com/d5/tengo/v2.ErrWrongNumArguments"], fn := fun _ => fun
  | [d1, d2, d3, d4, d5, g1] => { results := [.lit (.bool true)], args := [d1, d2, d3, d4, d5], vars := [g1] }
  | _ => none }
def fnLenCountsElementsRow : OpenClaim := { program := "ytdcafjjglgceaacdoor", sum := "e4a0270a0116b1f88249023cb2cefdfa26d65e9aed51b3365dbb97de3cec0c28", func := "github.com/d5/tengo/v2/n002_54.FnLenCountsElements", spec := "fnLenCountsElements", unfollowed := true, recurses := true, named := ["github.com/d5/tengo/v2.ErrWrongNumArguments"], ifaces := true, apart := false, laid := [("github.com/d5/tengo/v2.ErrWrongNumArguments", laid_github_com_d5_tengo_v2_ErrWrongNumArguments)] }
def FnLenCountsElementsSaid : Prop := fnLenCountsElementsRow.holds Tryd.pinned (OpenSpec.ofChange fnLenCountsElementsSpec)

/-- ITS FALSE NEIGHBOUR: 'it returns false'. Refute it at one input. -/
def fnLenCountsElementsWrong : ChangeSpec := { name := "fnLenCountsElements", vars := ["github.com/d5/tengo/v2.ErrWrongNumArguments"], fn := fun _ => fun
  | [d1, d2, d3, d4, d5, g1] => { results := [.lit (.bool false)], args := [d1, d2, d3, d4, d5], vars := [g1] }
  | _ => none }
def FnLenCountsElementsWrongFalsely : Prop := fnLenCountsElementsRow.holds Tryd.pinned (OpenSpec.ofChange fnLenCountsElementsWrong)

/- THE SECOND FORM. 'bulk': how many values and letters a reading holds, each counted each time it is reached (what is shared counts as often as it is met; a slice's spare places count too). A statement '..UptoSaid' is the law's where the arguments, and the package variables that the reading takes, are together of bulk at most 1048576: NARROWER than '..Said'. Prove '..Said' where nothing that the law and all that it calls make is longer than what came in: it says more and counts as full. Else prove '..UptoSaid'. A law counts once. -/
mutual
def uptoBulk {H : Type} : DataW H → Nat
  | .lit (.string bytes) => bytes.length + 1
  | .lit _ => 1
  | .nil => 1
  | .ptr d => uptoBulk d + 1
  | .slice elems spare => uptoBulkAll elems + uptoBulkAll spare + 1
  | .agg parts => uptoBulkAll parts + 1
  | .iface _ d => uptoBulk d + 1
  | .map entries => uptoBulkEntries entries + 1
  | .held _ => 1
def uptoBulkAll {H : Type} : List (DataW H) → Nat
  | [] => 0
  | d :: r => uptoBulk d + uptoBulkAll r
def uptoBulkEntries {H : Type} : List (Lit × DataW H) → Nat
  | [] => 0
  | x :: r => uptoBulkEntry x + uptoBulkEntries r
def uptoBulkEntry {H : Type} : Lit × DataW H → Nat
  | (.string bytes, d) => bytes.length + uptoBulk d + 1
  | (_, d) => uptoBulk d + 1
 end
def uptoSmall : (H : Type) → List (DataW H) → Bool := fun _ ds => decide (uptoBulkAll ds ≤ 1048576)
def OpenSpec.upto (s : _root_.Go.ChangeSpec) : _root_.Go.OpenSpec := { _root_.Go.OpenSpec.ofChange s with cond := some uptoSmall }

/-- 'n002_54.FnLenCountsElements', WHERE WHAT IT READS IS OF BULK AT MOST 1048576: true; the input reads as it did. -/
def fnLenCountsElementsUptoRow : OpenClaim := { program := "ytdcafjjglgceaacdoor", sum := "e4a0270a0116b1f88249023cb2cefdfa26d65e9aed51b3365dbb97de3cec0c28", func := "github.com/d5/tengo/v2/n002_54.FnLenCountsElements", spec := "fnLenCountsElements", unfollowed := true, recurses := true, named := ["github.com/d5/tengo/v2.ErrWrongNumArguments"], ifaces := true, apart := false, laid := [("github.com/d5/tengo/v2.ErrWrongNumArguments", laid_github_com_d5_tengo_v2_ErrWrongNumArguments)], narrowed := true }
def FnLenCountsElementsUptoSaid : Prop := fnLenCountsElementsUptoRow.holds Tryd.pinned (OpenSpec.upto fnLenCountsElementsSpec)

end Rows
end Go.Proofs.YtdcafjjglgceaacDoor
