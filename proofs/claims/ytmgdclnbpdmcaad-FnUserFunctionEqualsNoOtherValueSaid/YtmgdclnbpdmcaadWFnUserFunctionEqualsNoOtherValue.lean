/- The law FnUserFunctionEqualsNoOtherValue walked: the call returns true and writes nothing that was there. Its conditions: none beyond the arguments' types. -/
import Derived.Test.YtmgdclnbpdmcaadProg
import Derived.Test.YtmgdclnbpdmcaadBase
import Derived.Handy
import Derived.Outline
import Derived.WalkLawsBesides
import Derived.WalkSpells
import Derived.Deep.QuietTactic
import Derived.BigQuiet
import Derived.RegionTactic
import Derived.ChangeAlike
namespace Go.Proofs.Ytmgdclnbpdmcaad.fnUserFunctionEqualsNoOtherValue
open Go.RowKit Go.Proofs.Ytmgdclnbpdmcaad
theorem ta29 (v : Value) (w : World) : (Instr.typeAssert (.iface 23 v) 42 29 true).run Try.prog w = .ok (.tuple #[.pointer none, .bool false]) w := by kernel_rfl
theorem ta33 (v : Value) (w : World) : (Instr.typeAssert (.iface 23 v) 42 33 true).run Try.prog w = .ok (.tuple #[.pointer none, .bool false]) w := by kernel_rfl
theorem ta36 (v : Value) (w : World) : (Instr.typeAssert (.iface 23 v) 42 36 true).run Try.prog w = .ok (.tuple #[.pointer none, .bool false]) w := by kernel_rfl
theorem ta45 (v : Value) (w : World) : (Instr.typeAssert (.iface 23 v) 42 45 true).run Try.prog w = .ok (.tuple #[.pointer none, .bool false]) w := by kernel_rfl
attribute [local go_sem] ta29 ta33 ta36 ta45
set_option linter.unusedVariables false in
set_option maxHeartbeats 1000000 in
theorem walk (a0 : ByteArray) (a1 : Int) (w : World) (w0 : a0.size ≤ maxLen) (w1 : (Lit.int .i64 a1).wf = true) :
    Calls Try.prog 3 #[.string a0, .int .i64 a1] w fun e w' => e = .returned (.bool true) ∧ Below w.heap.size w w' := by
  unfold maxLen at w0
  by_cases h0 : a0.size ≤ 1048576
  · go_enter Try.func3, Try.ntmps3
    go_wp2
    go_ret
    refine ⟨rfl, ?_⟩
    go_grown
  · go_enter Try.func3, Try.ntmps3
    go_wp2
    go_ret
    exact ⟨rfl, Below.refl _ _⟩
end Go.Proofs.Ytmgdclnbpdmcaad.fnUserFunctionEqualsNoOtherValue
