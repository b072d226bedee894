/- The law FnUserFunctionCopyIsIndependent walked: the call returns true and writes nothing that was there. Its conditions: none beyond the arguments' types. -/
import Derived.Test.YtmgdclnbpdmcaabProg
import Derived.Test.YtmgdclnbpdmcaabBase
import Derived.Handy
import Derived.Outline
import Derived.WalkLawsBesides
import Derived.WalkSpells
import Derived.Deep.QuietTactic
import Derived.BigQuiet
import Derived.RegionTactic
import Derived.ChangeAlike
namespace Go.Proofs.Ytmgdclnbpdmcaab.fnUserFunctionCopyIsIndependent
open Go.RowKit Go.Proofs.Ytmgdclnbpdmcaab
set_option linter.unusedVariables false in
set_option maxHeartbeats 1000000 in
theorem walk (a0 : ByteArray) (a1 : ByteArray) (w : World) (w0 : a0.size ≤ maxLen) (w1 : a1.size ≤ maxLen) :
    Calls Try.prog 3 #[.string a0, .string a1] w fun e w' => e = .returned (.bool true) ∧ Below w.heap.size w w' := by
  unfold maxLen at w0 w1
  by_cases h0 : a0.size ≤ 1048576
  · by_cases h1 : a1.size ≤ 1048576
    · by_cases h2 : a0.size + a1.size ≤ 1048576
      · go_enter Try.func3, Try.ntmps3
        go_wp2
        go_region
        go_wp2
        go_ret
        refine ⟨rfl, ?_⟩
        go_grown
      · go_enter Try.func3, Try.ntmps3
        go_wp2
        go_ret
        exact ⟨rfl, Below.refl _ _⟩
    · go_enter Try.func3, Try.ntmps3
      go_wp2
      go_ret
      exact ⟨rfl, Below.refl _ _⟩
  · go_enter Try.func3, Try.ntmps3
    go_wp2
    go_ret
    exact ⟨rfl, Below.refl _ _⟩
end Go.Proofs.Ytmgdclnbpdmcaab.fnUserFunctionCopyIsIndependent
