/-
  NARROWER THAN 'FOR EVERY INPUT', by the rows' own cells (each row's printed sentence says how): FnPadStringExact: ifaces, laid · FnClearFlagsThenPadStringWritesPlain: ifaces, laid · FnPadExact: ifaces, laid · FnWritePaddingExact: ifaces, laid · FnPadAgreesWithPadString: ifaces, laid · FnPadStringWidthHonoured: ifaces, laid · FnWritePaddingAdditive: ifaces, laid.
  DERIVED. THE GIVEN ROWS OF THIS SEAT. 7 by the template 'for every input the law returns true; each argument reads behind the call as it read before'; 0 by the template 'total and deterministic' (their statements: YtmpdcljnghaekaaDoorTotals.lean).
  GIVEN WITH THE SEED: the statements are not yours to turn. If you find one false, say at which input.
  Laid BY PROGRAM, IN A SANDBOX (cutbox-rows.mjs): the forced cells as the released guide's own fill.sh prints them over the translation c7cd1d6485a6a03c… (all of the seat's roots in one cut). By AI agents, Wed Nov 11 2026. No macro, syntax, notation, axiom, sorry.
-/
import Derived.Test.YtmpdcljnghaekaaDoorChecked
import GoSem.Claim
import GoSem.ClaimJoined
import GoSem.ClaimMapViews
import Derived.JoinedTies
import Derived.KernelRfl
namespace Go.Proofs.YtmpdcljnghaekaaDoor
/- THE CELL 'sum', in the pinned program and in every row, IS THE sha256 OF THE DUMP (.gsa) THAT YtmpdcljnghaekaaDoorProg.lean LOADS. Nothing in Lean hashes anything: it is a label: what it is worth is what the hold of that sum in a sandbox is worth. -/
noncomputable def Tryd.pinned : Pinned := { name := "ytmpdcljnghaekaadoor", sum := "c7cd1d6485a6a03ce1e0bdbfe5f7687c16db9113019d38dc333aecd97838a2d4", checked := Tryd.checked }
namespace Rows
def none {H : Type} : Left H := { results := [], args := [] }

/- WHAT THE LISTED PACKAGE-LEVEL VARIABLES READ AS WHEN THE CALL BEGINS. Each datum BY PROGRAM (the guide's laid-datum.mjs) off the statement by which the dump's own 'gosem.cut.vars' lays the variable. In a bare row this is a premise. The card (YtmpdcljnghaekaaDoorCards.lean) ties it to the program's text. -/
def laid_github_com_d5_tengo_v2_ErrStringLimit {H : Type} : DataW H := .iface "*errors.errorString" (.ptr (.agg [.lit (.string [101, 120, 99, 101, 101, 100, 105, 110, 103, 32, 115, 116, 114, 105, 110, 103, 32, 115, 105, 122, 101, 32, 108, 105, 109, 105, 116])]))
def laid_github_com_d5_tengo_v2_MaxStringLen {H : Type} : DataW H := .lit (.int .i64 2147483647)

/-- 'n002_152.FnPadStringExact': WHATEVER THE INPUT: true; the input reads as it did. -/
def fnPadStringExactSpec : ChangeSpec := { name := "fnPadStringExact", vars := ["github.com/d5/tengo/v2.MaxStringLen", "github.com/d5/tengo/v2.ErrStringLimit"], fn := fun _ => fun
  | [d1, d2, d3, d4, d5, d6, g1, g2] => { results := [.lit (.bool true)], args := [d1, d2, d3, d4, d5, d6], vars := [g1, g2] }
  | _ => none }
def fnPadStringExactRow : OpenClaim := { program := "ytmpdcljnghaekaadoor", sum := "c7cd1d6485a6a03ce1e0bdbfe5f7687c16db9113019d38dc333aecd97838a2d4", func := "github.com/d5/tengo/v2/n002_152.FnPadStringExact", spec := "fnPadStringExact", named := ["github.com/d5/tengo/v2.MaxStringLen", "github.com/d5/tengo/v2.ErrStringLimit"], ifaces := true, apart := false, laid := [("github.com/d5/tengo/v2.ErrStringLimit", laid_github_com_d5_tengo_v2_ErrStringLimit), ("github.com/d5/tengo/v2.MaxStringLen", laid_github_com_d5_tengo_v2_MaxStringLen)] }
def FnPadStringExactSaid : Prop := fnPadStringExactRow.holds Tryd.pinned (OpenSpec.ofChange fnPadStringExactSpec)

/-- ITS FALSE NEIGHBOUR: 'it returns false'. Refute it at one input. -/
def fnPadStringExactWrong : ChangeSpec := { name := "fnPadStringExact", vars := ["github.com/d5/tengo/v2.MaxStringLen", "github.com/d5/tengo/v2.ErrStringLimit"], fn := fun _ => fun
  | [d1, d2, d3, d4, d5, d6, g1, g2] => { results := [.lit (.bool false)], args := [d1, d2, d3, d4, d5, d6], vars := [g1, g2] }
  | _ => none }
def FnPadStringExactWrongFalsely : Prop := fnPadStringExactRow.holds Tryd.pinned (OpenSpec.ofChange fnPadStringExactWrong)

/-- 'n002_152.FnClearFlagsThenPadStringWritesPlain': WHATEVER THE INPUT: true; the input reads as it did. -/
def fnClearFlagsThenPadStringWritesPlainSpec : ChangeSpec := { name := "fnClearFlagsThenPadStringWritesPlain", vars := ["github.com/d5/tengo/v2.MaxStringLen", "github.com/d5/tengo/v2.ErrStringLimit"], fn := fun _ => fun
  | [d1, d2, d3, d4, g1, g2] => { results := [.lit (.bool true)], args := [d1, d2, d3, d4], vars := [g1, g2] }
  | _ => none }
def fnClearFlagsThenPadStringWritesPlainRow : OpenClaim := { program := "ytmpdcljnghaekaadoor", sum := "c7cd1d6485a6a03ce1e0bdbfe5f7687c16db9113019d38dc333aecd97838a2d4", func := "github.com/d5/tengo/v2/n002_152.FnClearFlagsThenPadStringWritesPlain", spec := "fnClearFlagsThenPadStringWritesPlain", named := ["github.com/d5/tengo/v2.MaxStringLen", "github.com/d5/tengo/v2.ErrStringLimit"], ifaces := true, apart := false, laid := [("github.com/d5/tengo/v2.ErrStringLimit", laid_github_com_d5_tengo_v2_ErrStringLimit), ("github.com/d5/tengo/v2.MaxStringLen", laid_github_com_d5_tengo_v2_MaxStringLen)] }
def FnClearFlagsThenPadStringWritesPlainSaid : Prop := fnClearFlagsThenPadStringWritesPlainRow.holds Tryd.pinned (OpenSpec.ofChange fnClearFlagsThenPadStringWritesPlainSpec)

/-- ITS FALSE NEIGHBOUR: 'it returns false'. Refute it at one input. -/
def fnClearFlagsThenPadStringWritesPlainWrong : ChangeSpec := { name := "fnClearFlagsThenPadStringWritesPlain", vars := ["github.com/d5/tengo/v2.MaxStringLen", "github.com/d5/tengo/v2.ErrStringLimit"], fn := fun _ => fun
  | [d1, d2, d3, d4, g1, g2] => { results := [.lit (.bool false)], args := [d1, d2, d3, d4], vars := [g1, g2] }
  | _ => none }
def FnClearFlagsThenPadStringWritesPlainWrongFalsely : Prop := fnClearFlagsThenPadStringWritesPlainRow.holds Tryd.pinned (OpenSpec.ofChange fnClearFlagsThenPadStringWritesPlainWrong)

/-- 'n002_152.FnPadExact': WHATEVER THE INPUT: true; the input reads as it did. -/
def fnPadExactSpec : ChangeSpec := { name := "fnPadExact", vars := ["github.com/d5/tengo/v2.MaxStringLen", "github.com/d5/tengo/v2.ErrStringLimit"], fn := fun _ => fun
  | [d1, d2, d3, d4, d5, d6, g1, g2] => { results := [.lit (.bool true)], args := [d1, d2, d3, d4, d5, d6], vars := [g1, g2] }
  | _ => none }
def fnPadExactRow : OpenClaim := { program := "ytmpdcljnghaekaadoor", sum := "c7cd1d6485a6a03ce1e0bdbfe5f7687c16db9113019d38dc333aecd97838a2d4", func := "github.com/d5/tengo/v2/n002_152.FnPadExact", spec := "fnPadExact", named := ["github.com/d5/tengo/v2.MaxStringLen", "github.com/d5/tengo/v2.ErrStringLimit"], ifaces := true, apart := false, laid := [("github.com/d5/tengo/v2.ErrStringLimit", laid_github_com_d5_tengo_v2_ErrStringLimit), ("github.com/d5/tengo/v2.MaxStringLen", laid_github_com_d5_tengo_v2_MaxStringLen)] }
def FnPadExactSaid : Prop := fnPadExactRow.holds Tryd.pinned (OpenSpec.ofChange fnPadExactSpec)

/-- ITS FALSE NEIGHBOUR: 'it returns false'. Refute it at one input. -/
def fnPadExactWrong : ChangeSpec := { name := "fnPadExact", vars := ["github.com/d5/tengo/v2.MaxStringLen", "github.com/d5/tengo/v2.ErrStringLimit"], fn := fun _ => fun
  | [d1, d2, d3, d4, d5, d6, g1, g2] => { results := [.lit (.bool false)], args := [d1, d2, d3, d4, d5, d6], vars := [g1, g2] }
  | _ => none }
def FnPadExactWrongFalsely : Prop := fnPadExactRow.holds Tryd.pinned (OpenSpec.ofChange fnPadExactWrong)

/-- 'n002_152.FnWritePaddingExact': WHATEVER THE INPUT: true; the input reads as it did. -/
def fnWritePaddingExactSpec : ChangeSpec := { name := "fnWritePaddingExact", vars := ["github.com/d5/tengo/v2.MaxStringLen", "github.com/d5/tengo/v2.ErrStringLimit"], fn := fun _ => fun
  | [d1, d2, d3, d4, g1, g2] => { results := [.lit (.bool true)], args := [d1, d2, d3, d4], vars := [g1, g2] }
  | _ => none }
def fnWritePaddingExactRow : OpenClaim := { program := "ytmpdcljnghaekaadoor", sum := "c7cd1d6485a6a03ce1e0bdbfe5f7687c16db9113019d38dc333aecd97838a2d4", func := "github.com/d5/tengo/v2/n002_152.FnWritePaddingExact", spec := "fnWritePaddingExact", named := ["github.com/d5/tengo/v2.MaxStringLen", "github.com/d5/tengo/v2.ErrStringLimit"], ifaces := true, apart := false, laid := [("github.com/d5/tengo/v2.ErrStringLimit", laid_github_com_d5_tengo_v2_ErrStringLimit), ("github.com/d5/tengo/v2.MaxStringLen", laid_github_com_d5_tengo_v2_MaxStringLen)] }
def FnWritePaddingExactSaid : Prop := fnWritePaddingExactRow.holds Tryd.pinned (OpenSpec.ofChange fnWritePaddingExactSpec)

/-- ITS FALSE NEIGHBOUR: 'it returns false'. Refute it at one input. -/
def fnWritePaddingExactWrong : ChangeSpec := { name := "fnWritePaddingExact", vars := ["github.com/d5/tengo/v2.MaxStringLen", "github.com/d5/tengo/v2.ErrStringLimit"], fn := fun _ => fun
  | [d1, d2, d3, d4, g1, g2] => { results := [.lit (.bool false)], args := [d1, d2, d3, d4], vars := [g1, g2] }
  | _ => none }
def FnWritePaddingExactWrongFalsely : Prop := fnWritePaddingExactRow.holds Tryd.pinned (OpenSpec.ofChange fnWritePaddingExactWrong)

/-- 'n002_152.FnPadAgreesWithPadString': WHATEVER THE INPUT: true; the input reads as it did. -/
def fnPadAgreesWithPadStringSpec : ChangeSpec := { name := "fnPadAgreesWithPadString", vars := ["github.com/d5/tengo/v2.MaxStringLen", "github.com/d5/tengo/v2.ErrStringLimit"], fn := fun _ => fun
  | [d1, d2, d3, d4, d5, d6, g1, g2] => { results := [.lit (.bool true)], args := [d1, d2, d3, d4, d5, d6], vars := [g1, g2] }
  | _ => none }
def fnPadAgreesWithPadStringRow : OpenClaim := { program := "ytmpdcljnghaekaadoor", sum := "c7cd1d6485a6a03ce1e0bdbfe5f7687c16db9113019d38dc333aecd97838a2d4", func := "github.com/d5/tengo/v2/n002_152.FnPadAgreesWithPadString", spec := "fnPadAgreesWithPadString", named := ["github.com/d5/tengo/v2.MaxStringLen", "github.com/d5/tengo/v2.ErrStringLimit"], ifaces := true, apart := false, laid := [("github.com/d5/tengo/v2.ErrStringLimit", laid_github_com_d5_tengo_v2_ErrStringLimit), ("github.com/d5/tengo/v2.MaxStringLen", laid_github_com_d5_tengo_v2_MaxStringLen)] }
def FnPadAgreesWithPadStringSaid : Prop := fnPadAgreesWithPadStringRow.holds Tryd.pinned (OpenSpec.ofChange fnPadAgreesWithPadStringSpec)

/-- ITS FALSE NEIGHBOUR: 'it returns false'. Refute it at one input. -/
def fnPadAgreesWithPadStringWrong : ChangeSpec := { name := "fnPadAgreesWithPadString", vars := ["github.com/d5/tengo/v2.MaxStringLen", "github.com/d5/tengo/v2.ErrStringLimit"], fn := fun _ => fun
  | [d1, d2, d3, d4, d5, d6, g1, g2] => { results := [.lit (.bool false)], args := [d1, d2, d3, d4, d5, d6], vars := [g1, g2] }
  | _ => none }
def FnPadAgreesWithPadStringWrongFalsely : Prop := fnPadAgreesWithPadStringRow.holds Tryd.pinned (OpenSpec.ofChange fnPadAgreesWithPadStringWrong)

/-- 'n002_152.FnPadStringWidthHonoured': WHATEVER THE INPUT: true; the input reads as it did. -/
def fnPadStringWidthHonouredSpec : ChangeSpec := { name := "fnPadStringWidthHonoured", vars := ["github.com/d5/tengo/v2.MaxStringLen", "github.com/d5/tengo/v2.ErrStringLimit"], fn := fun _ => fun
  | [d1, d2, d3, d4, d5, d6, g1, g2] => { results := [.lit (.bool true)], args := [d1, d2, d3, d4, d5, d6], vars := [g1, g2] }
  | _ => none }
def fnPadStringWidthHonouredRow : OpenClaim := { program := "ytmpdcljnghaekaadoor", sum := "c7cd1d6485a6a03ce1e0bdbfe5f7687c16db9113019d38dc333aecd97838a2d4", func := "github.com/d5/tengo/v2/n002_152.FnPadStringWidthHonoured", spec := "fnPadStringWidthHonoured", named := ["github.com/d5/tengo/v2.MaxStringLen", "github.com/d5/tengo/v2.ErrStringLimit"], ifaces := true, apart := false, laid := [("github.com/d5/tengo/v2.ErrStringLimit", laid_github_com_d5_tengo_v2_ErrStringLimit), ("github.com/d5/tengo/v2.MaxStringLen", laid_github_com_d5_tengo_v2_MaxStringLen)] }
def FnPadStringWidthHonouredSaid : Prop := fnPadStringWidthHonouredRow.holds Tryd.pinned (OpenSpec.ofChange fnPadStringWidthHonouredSpec)

/-- ITS FALSE NEIGHBOUR: 'it returns false'. Refute it at one input. -/
def fnPadStringWidthHonouredWrong : ChangeSpec := { name := "fnPadStringWidthHonoured", vars := ["github.com/d5/tengo/v2.MaxStringLen", "github.com/d5/tengo/v2.ErrStringLimit"], fn := fun _ => fun
  | [d1, d2, d3, d4, d5, d6, g1, g2] => { results := [.lit (.bool false)], args := [d1, d2, d3, d4, d5, d6], vars := [g1, g2] }
  | _ => none }
def FnPadStringWidthHonouredWrongFalsely : Prop := fnPadStringWidthHonouredRow.holds Tryd.pinned (OpenSpec.ofChange fnPadStringWidthHonouredWrong)

/-- 'n002_152.FnWritePaddingAdditive': WHATEVER THE INPUT: true; the input reads as it did. -/
def fnWritePaddingAdditiveSpec : ChangeSpec := { name := "fnWritePaddingAdditive", vars := ["github.com/d5/tengo/v2.MaxStringLen", "github.com/d5/tengo/v2.ErrStringLimit"], fn := fun _ => fun
  | [d1, d2, d3, d4, g1, g2] => { results := [.lit (.bool true)], args := [d1, d2, d3, d4], vars := [g1, g2] }
  | _ => none }
def fnWritePaddingAdditiveRow : OpenClaim := { program := "ytmpdcljnghaekaadoor", sum := "c7cd1d6485a6a03ce1e0bdbfe5f7687c16db9113019d38dc333aecd97838a2d4", func := "github.com/d5/tengo/v2/n002_152.FnWritePaddingAdditive", spec := "fnWritePaddingAdditive", named := ["github.com/d5/tengo/v2.MaxStringLen", "github.com/d5/tengo/v2.ErrStringLimit"], ifaces := true, apart := false, laid := [("github.com/d5/tengo/v2.ErrStringLimit", laid_github_com_d5_tengo_v2_ErrStringLimit), ("github.com/d5/tengo/v2.MaxStringLen", laid_github_com_d5_tengo_v2_MaxStringLen)] }
def FnWritePaddingAdditiveSaid : Prop := fnWritePaddingAdditiveRow.holds Tryd.pinned (OpenSpec.ofChange fnWritePaddingAdditiveSpec)

/-- ITS FALSE NEIGHBOUR: 'it returns false'. Refute it at one input. -/
def fnWritePaddingAdditiveWrong : ChangeSpec := { name := "fnWritePaddingAdditive", vars := ["github.com/d5/tengo/v2.MaxStringLen", "github.com/d5/tengo/v2.ErrStringLimit"], fn := fun _ => fun
  | [d1, d2, d3, d4, g1, g2] => { results := [.lit (.bool false)], args := [d1, d2, d3, d4], vars := [g1, g2] }
  | _ => none }
def FnWritePaddingAdditiveWrongFalsely : Prop := fnWritePaddingAdditiveRow.holds Tryd.pinned (OpenSpec.ofChange fnWritePaddingAdditiveWrong)

/- THE SECOND FORM. 'bulk': how many values and letters a reading holds, each counted each time it is reached (what is shared counts as often as it is met; a slice's spare places count too). A statement '..UptoSaid' is the law's where the arguments, and the package variables that the reading takes, are together of bulk at most 1048576: NARROWER than '..Said'. Prove '..Said' where nothing that the law and all that it calls make is longer than what came in: it says more and counts as full. Else prove '..UptoSaid'. A law counts once. -/
mutual
def uptoBulk {H : Type} : DataW H → Nat
  | .lit (.string bytes) => bytes.length + 1
  | .lit _ => 1
  | .nil => 1
  | .ptr d => uptoBulk d + 1
  | .slice elems spare => uptoBulkAll elems + uptoBulkAll spare + 1
  | .agg parts => uptoBulkAll parts + 1
  | .iface _ d => uptoBulk d + 1
  | .map entries => uptoBulkEntries entries + 1
  | .held _ => 1
def uptoBulkAll {H : Type} : List (DataW H) → Nat
  | [] => 0
  | d :: r => uptoBulk d + uptoBulkAll r
def uptoBulkEntries {H : Type} : List (Lit × DataW H) → Nat
  | [] => 0
  | x :: r => uptoBulkEntry x + uptoBulkEntries r
def uptoBulkEntry {H : Type} : Lit × DataW H → Nat
  | (.string bytes, d) => bytes.length + uptoBulk d + 1
  | (_, d) => uptoBulk d + 1
 end
def uptoSmall : (H : Type) → List (DataW H) → Bool := fun _ ds => decide (uptoBulkAll ds ≤ 1048576)
def OpenSpec.upto (s : _root_.Go.ChangeSpec) : _root_.Go.OpenSpec := { _root_.Go.OpenSpec.ofChange s with cond := some uptoSmall }

/-- 'n002_152.FnPadStringExact', WHERE WHAT IT READS IS OF BULK AT MOST 1048576: true; the input reads as it did. -/
def fnPadStringExactUptoRow : OpenClaim := { program := "ytmpdcljnghaekaadoor", sum := "c7cd1d6485a6a03ce1e0bdbfe5f7687c16db9113019d38dc333aecd97838a2d4", func := "github.com/d5/tengo/v2/n002_152.FnPadStringExact", spec := "fnPadStringExact", named := ["github.com/d5/tengo/v2.MaxStringLen", "github.com/d5/tengo/v2.ErrStringLimit"], ifaces := true, apart := false, laid := [("github.com/d5/tengo/v2.ErrStringLimit", laid_github_com_d5_tengo_v2_ErrStringLimit), ("github.com/d5/tengo/v2.MaxStringLen", laid_github_com_d5_tengo_v2_MaxStringLen)], narrowed := true }
def FnPadStringExactUptoSaid : Prop := fnPadStringExactUptoRow.holds Tryd.pinned (OpenSpec.upto fnPadStringExactSpec)

/-- 'n002_152.FnClearFlagsThenPadStringWritesPlain', WHERE WHAT IT READS IS OF BULK AT MOST 1048576: true; the input reads as it did. -/
def fnClearFlagsThenPadStringWritesPlainUptoRow : OpenClaim := { program := "ytmpdcljnghaekaadoor", sum := "c7cd1d6485a6a03ce1e0bdbfe5f7687c16db9113019d38dc333aecd97838a2d4", func := "github.com/d5/tengo/v2/n002_152.FnClearFlagsThenPadStringWritesPlain", spec := "fnClearFlagsThenPadStringWritesPlain", named := ["github.com/d5/tengo/v2.MaxStringLen", "github.com/d5/tengo/v2.ErrStringLimit"], ifaces := true, apart := false, laid := [("github.com/d5/tengo/v2.ErrStringLimit", laid_github_com_d5_tengo_v2_ErrStringLimit), ("github.com/d5/tengo/v2.MaxStringLen", laid_github_com_d5_tengo_v2_MaxStringLen)], narrowed := true }
def FnClearFlagsThenPadStringWritesPlainUptoSaid : Prop := fnClearFlagsThenPadStringWritesPlainUptoRow.holds Tryd.pinned (OpenSpec.upto fnClearFlagsThenPadStringWritesPlainSpec)

/-- 'n002_152.FnPadExact', WHERE WHAT IT READS IS OF BULK AT MOST 1048576: true; the input reads as it did. -/
def fnPadExactUptoRow : OpenClaim := { program := "ytmpdcljnghaekaadoor", sum := "c7cd1d6485a6a03ce1e0bdbfe5f7687c16db9113019d38dc333aecd97838a2d4", func := "github.com/d5/tengo/v2/n002_152.FnPadExact", spec := "fnPadExact", named := ["github.com/d5/tengo/v2.MaxStringLen", "github.com/d5/tengo/v2.ErrStringLimit"], ifaces := true, apart := false, laid := [("github.com/d5/tengo/v2.ErrStringLimit", laid_github_com_d5_tengo_v2_ErrStringLimit), ("github.com/d5/tengo/v2.MaxStringLen", laid_github_com_d5_tengo_v2_MaxStringLen)], narrowed := true }
def FnPadExactUptoSaid : Prop := fnPadExactUptoRow.holds Tryd.pinned (OpenSpec.upto fnPadExactSpec)

/-- 'n002_152.FnWritePaddingExact', WHERE WHAT IT READS IS OF BULK AT MOST 1048576: true; the input reads as it did. -/
def fnWritePaddingExactUptoRow : OpenClaim := { program := "ytmpdcljnghaekaadoor", sum := "c7cd1d6485a6a03ce1e0bdbfe5f7687c16db9113019d38dc333aecd97838a2d4", func := "github.com/d5/tengo/v2/n002_152.FnWritePaddingExact", spec := "fnWritePaddingExact", named := ["github.com/d5/tengo/v2.MaxStringLen", "github.com/d5/tengo/v2.ErrStringLimit"], ifaces := true, apart := false, laid := [("github.com/d5/tengo/v2.ErrStringLimit", laid_github_com_d5_tengo_v2_ErrStringLimit), ("github.com/d5/tengo/v2.MaxStringLen", laid_github_com_d5_tengo_v2_MaxStringLen)], narrowed := true }
def FnWritePaddingExactUptoSaid : Prop := fnWritePaddingExactUptoRow.holds Tryd.pinned (OpenSpec.upto fnWritePaddingExactSpec)

/-- 'n002_152.FnPadAgreesWithPadString', WHERE WHAT IT READS IS OF BULK AT MOST 1048576: true; the input reads as it did. -/
def fnPadAgreesWithPadStringUptoRow : OpenClaim := { program := "ytmpdcljnghaekaadoor", sum := "c7cd1d6485a6a03ce1e0bdbfe5f7687c16db9113019d38dc333aecd97838a2d4", func := "github.com/d5/tengo/v2/n002_152.FnPadAgreesWithPadString", spec := "fnPadAgreesWithPadString", named := ["github.com/d5/tengo/v2.MaxStringLen", "github.com/d5/tengo/v2.ErrStringLimit"], ifaces := true, apart := false, laid := [("github.com/d5/tengo/v2.ErrStringLimit", laid_github_com_d5_tengo_v2_ErrStringLimit), ("github.com/d5/tengo/v2.MaxStringLen", laid_github_com_d5_tengo_v2_MaxStringLen)], narrowed := true }
def FnPadAgreesWithPadStringUptoSaid : Prop := fnPadAgreesWithPadStringUptoRow.holds Tryd.pinned (OpenSpec.upto fnPadAgreesWithPadStringSpec)

/-- 'n002_152.FnPadStringWidthHonoured', WHERE WHAT IT READS IS OF BULK AT MOST 1048576: true; the input reads as it did. -/
def fnPadStringWidthHonouredUptoRow : OpenClaim := { program := "ytmpdcljnghaekaadoor", sum := "c7cd1d6485a6a03ce1e0bdbfe5f7687c16db9113019d38dc333aecd97838a2d4", func := "github.com/d5/tengo/v2/n002_152.FnPadStringWidthHonoured", spec := "fnPadStringWidthHonoured", named := ["github.com/d5/tengo/v2.MaxStringLen", "github.com/d5/tengo/v2.ErrStringLimit"], ifaces := true, apart := false, laid := [("github.com/d5/tengo/v2.ErrStringLimit", laid_github_com_d5_tengo_v2_ErrStringLimit), ("github.com/d5/tengo/v2.MaxStringLen", laid_github_com_d5_tengo_v2_MaxStringLen)], narrowed := true }
def FnPadStringWidthHonouredUptoSaid : Prop := fnPadStringWidthHonouredUptoRow.holds Tryd.pinned (OpenSpec.upto fnPadStringWidthHonouredSpec)

/-- 'n002_152.FnWritePaddingAdditive', WHERE WHAT IT READS IS OF BULK AT MOST 1048576: true; the input reads as it did. -/
def fnWritePaddingAdditiveUptoRow : OpenClaim := { program := "ytmpdcljnghaekaadoor", sum := "c7cd1d6485a6a03ce1e0bdbfe5f7687c16db9113019d38dc333aecd97838a2d4", func := "github.com/d5/tengo/v2/n002_152.FnWritePaddingAdditive", spec := "fnWritePaddingAdditive", named := ["github.com/d5/tengo/v2.MaxStringLen", "github.com/d5/tengo/v2.ErrStringLimit"], ifaces := true, apart := false, laid := [("github.com/d5/tengo/v2.ErrStringLimit", laid_github_com_d5_tengo_v2_ErrStringLimit), ("github.com/d5/tengo/v2.MaxStringLen", laid_github_com_d5_tengo_v2_MaxStringLen)], narrowed := true }
def FnWritePaddingAdditiveUptoSaid : Prop := fnWritePaddingAdditiveUptoRow.holds Tryd.pinned (OpenSpec.upto fnWritePaddingAdditiveSpec)

end Rows
end Go.Proofs.YtmpdcljnghaekaaDoor
