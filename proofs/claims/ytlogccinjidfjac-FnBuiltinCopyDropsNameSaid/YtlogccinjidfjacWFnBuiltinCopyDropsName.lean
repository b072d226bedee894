/- The law FnBuiltinCopyDropsName walked: the call returns true and writes nothing that was there. Its conditions: none beyond the arguments' types. -/
import Derived.Test.YtlogccinjidfjacProg
import Derived.Test.YtlogccinjidfjacBase
import Derived.Handy
import Derived.Outline
import Derived.WalkLawsBesides
import Derived.WalkSpells
import Derived.Deep.QuietTactic
import Derived.BigQuiet
import Derived.RegionTactic
import Derived.ChangeAlike
namespace Go.Proofs.Ytlogccinjidfjac.fnBuiltinCopyDropsName
open Go.RowKit Go.Proofs.Ytlogccinjidfjac
theorem eq_name : (((⟨#[98, 117, 105, 108, 116, 105, 110, 45, 102, 117, 110, 99, 116, 105, 111, 110, 58]⟩ : ByteArray) ++ (⟨#[]⟩ : ByteArray)).toList == ([98, 117, 105, 108, 116, 105, 110, 45, 102, 117, 110, 99, 116, 105, 111, 110, 58] : List UInt8)) = true := by decide +kernel
set_option linter.unusedVariables false in
set_option maxHeartbeats 1000000 in
theorem walk (a0 : ByteArray) (w : World) (w0 : a0.size ≤ maxLen) :
    Calls Try.prog 3 #[.string a0] w fun e w' => e = .returned (.bool true) ∧ Below w.heap.size w w' := by
  unfold maxLen at w0
  by_cases h0 : a0.size ≤ 1048576
  · have n0 := eq_name
    go_enter Try.func3, Try.ntmps3
    go_wp2
    go_ret
    refine ⟨rfl, ?_⟩
    go_grown
  · go_enter Try.func3, Try.ntmps3
    go_wp2
    go_ret
    exact ⟨rfl, Below.refl _ _⟩
end Go.Proofs.Ytlogccinjidfjac.fnBuiltinCopyDropsName
