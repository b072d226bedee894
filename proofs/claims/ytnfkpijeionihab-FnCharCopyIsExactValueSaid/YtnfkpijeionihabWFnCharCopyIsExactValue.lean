/- The law FnCharCopyIsExactValue walked: the call returns true and writes nothing that was there. Its conditions: none beyond the arguments' types. -/
import Derived.Test.YtnfkpijeionihabProg
import Derived.Test.YtnfkpijeionihabBase
import Derived.Handy
import Derived.Outline
import Derived.WalkLawsBesides
import Derived.WalkSpells
import Derived.Deep.QuietTactic
import Derived.BigQuiet
import Derived.RegionTactic
import Derived.ChangeAlike
namespace Go.Proofs.Ytnfkpijeionihab.fnCharCopyIsExactValue
open Go.RowKit Go.Proofs.Ytnfkpijeionihab
theorem ta22 (v : Value) (w : World) : (Instr.typeAssert (.iface 22 v) 28 22 true).run Try.prog w = .ok (.tuple #[v, .bool true]) w := by kernel_rfl
attribute [local go_sem] ta22
set_option linter.unusedVariables false in
set_option maxHeartbeats 1000000 in
theorem walk (a0 : Int) (a1 : Int) (w : World) (w0 : (Lit.int .i32 a0).wf = true) (w1 : (Lit.int .i32 a1).wf = true) :
    Calls Try.prog 3 #[.int .i32 a0, .int .i32 a1] w fun e w' => e = .returned (.bool true) ∧ Below w.heap.size w w' := by
  have e1 : (a0 == a0) = true := by simp
  cases e2 : (a0 == a1)
  · go_enter Try.func3, Try.ntmps3
    go_wp2
    go_quiet (fail)
    go_wp2
    go_quiet (fail)
    go_wp2
    go_quiet (fail)
    go_wp2
    go_ret
    refine ⟨by simp, ?_⟩
    refine below_drewN ?_ _
    go_grown
  · go_enter Try.func3, Try.ntmps3
    go_wp2
    go_quiet (fail)
    go_wp2
    go_quiet (fail)
    go_wp2
    go_quiet (fail)
    go_wp2
    go_ret
    refine ⟨by simp, ?_⟩
    refine below_drewN ?_ _
    go_grown
end Go.Proofs.Ytnfkpijeionihab.fnCharCopyIsExactValue
