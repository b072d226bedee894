/- The law FnBuiltinCopyStable walked: the call returns true and writes nothing that was there. Its conditions: none beyond the arguments' types. -/
import Derived.Test.YtlogccinjidfjabProg
import Derived.Test.YtlogccinjidfjabBase
import Derived.Handy
import Derived.Outline
import Derived.WalkLawsBesides
import Derived.WalkSpells
import Derived.Deep.QuietTactic
import Derived.BigQuiet
import Derived.RegionTactic
import Derived.ChangeAlike
namespace Go.Proofs.Ytlogccinjidfjab.fnBuiltinCopyStable
open Go.RowKit Go.Proofs.Ytlogccinjidfjab
set_option linter.unusedVariables false in
set_option maxHeartbeats 1000000 in
theorem walk (a0 : ByteArray) (w : World) (w0 : a0.size ≤ maxLen) :
    Calls Try.prog 3 #[.string a0] w fun e w' => e = .returned (.bool true) ∧ Below w.heap.size w w' := by
  unfold maxLen at w0
  by_cases h0 : a0.size ≤ 1048576
  · go_enter Try.func3, Try.ntmps3
    go_wp2
    go_ret
    refine ⟨rfl, ?_⟩
    go_grown
  · go_enter Try.func3, Try.ntmps3
    go_wp2
    go_ret
    exact ⟨rfl, Below.refl _ _⟩
end Go.Proofs.Ytlogccinjidfjab.fnBuiltinCopyStable
