/- The law FnUserFunctionCopyKeepsNameAndText walked: for every name the call returns true and writes nothing that was there. Its conditions: none. -/
import Derived.Test.YtmgdclnbpdmcaaaProg
import Derived.Handy
import Derived.RegionTactic
import Derived.ChangeAlike
import Derived.WalkLawsBesides
import Derived.WalkSpells
import Derived.Deep.QuietTactic
import Derived.BigQuiet
namespace Go.Proofs.Ytmgdclnbpdmcaaa.fnUserFunctionCopyKeepsNameAndText
open Go.RowKit
set_option maxHeartbeats 400000 in
theorem walk (a0 : ByteArray) (w : World) (w0 : a0.size ≤ maxLen) :
    Calls Try.prog 3 #[.string a0] w fun e w' => e = .returned (.bool true) ∧ Below w.heap.size w w' := by
  unfold maxLen at w0
  by_cases h : a0.size ≤ 1048576
  · go_enter Try.func3, Try.ntmps3
    go_wp2
    go_region
    go_wp2
    go_ret
    refine ⟨rfl, ?_⟩
    go_grown
  · go_enter Try.func3, Try.ntmps3
    go_wp2
    go_ret
    exact ⟨rfl, Below.refl _ _⟩
end Go.Proofs.Ytmgdclnbpdmcaaa.fnUserFunctionCopyKeepsNameAndText
