/- The law FnUserFunctionStringSameForAllNamesNotTypeName walked: the call returns true and writes nothing that was there. Its conditions: none beyond the arguments' types. -/
import Derived.Test.YtmgdclnbpdmcaacProg
import Derived.Test.YtmgdclnbpdmcaacBase
import Derived.Handy
import Derived.Outline
import Derived.WalkLawsBesides
import Derived.WalkSpells
import Derived.Deep.QuietTactic
import Derived.BigQuiet
import Derived.RegionTactic
import Derived.ChangeAlike
namespace Go.Proofs.Ytmgdclnbpdmcaac.fnUserFunctionStringSameForAllNamesNotTypeName
open Go.RowKit Go.Proofs.Ytmgdclnbpdmcaac
theorem ne_name (a : ByteArray) : (([60, 117, 115, 101, 114, 45, 102, 117, 110, 99, 116, 105, 111, 110, 62] : List UInt8) == ((⟨#[117, 115, 101, 114, 45, 102, 117, 110, 99, 116, 105, 111, 110, 58]⟩ : ByteArray) ++ a).toList) = false := by
  rw [ByteArray.toList_eq, beq_eq_false_iff_ne]
  intro h
  have := congrArg List.head? h
  simp [ByteArray.data_append] at this
set_option linter.unusedVariables false in
set_option maxHeartbeats 1000000 in
theorem walk (a0 : ByteArray) (a1 : ByteArray) (w : World) (w0 : a0.size ≤ maxLen) (w1 : a1.size ≤ maxLen) :
    Calls Try.prog 3 #[.string a0, .string a1] w fun e w' => e = .returned (.bool true) ∧ Below w.heap.size w w' := by
  unfold maxLen at w0 w1
  by_cases h0 : a0.size ≤ 1048576
  · by_cases h1 : a1.size ≤ 1048576
    · by_cases h2 : a0.size + a1.size ≤ 1048576
      · have n0 := ne_name a0
        have n1 := ne_name a1
        go_enter Try.func3, Try.ntmps3
        go_wp2
        go_ret
        refine ⟨rfl, ?_⟩
        go_grown
      · go_enter Try.func3, Try.ntmps3
        go_wp2
        go_ret
        exact ⟨rfl, Below.refl _ _⟩
    · go_enter Try.func3, Try.ntmps3
      go_wp2
      go_ret
      exact ⟨rfl, Below.refl _ _⟩
  · go_enter Try.func3, Try.ntmps3
    go_wp2
    go_ret
    exact ⟨rfl, Below.refl _ _⟩
end Go.Proofs.Ytmgdclnbpdmcaac.fnUserFunctionStringSameForAllNamesNotTypeName
