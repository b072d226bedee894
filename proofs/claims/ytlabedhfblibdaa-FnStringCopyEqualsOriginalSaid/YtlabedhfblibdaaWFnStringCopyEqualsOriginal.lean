/- The law FnStringCopyEqualsOriginal walked: the call returns true and writes nothing that was there. Its conditions: none beyond the arguments' types. -/
import Derived.Test.YtlabedhfblibdaaProg
import Derived.Test.YtlabedhfblibdaaBase
import Derived.Handy
import Derived.Outline
import Derived.WalkLawsBesides
import Derived.WalkSpells
import Derived.Deep.QuietTactic
import Derived.BigQuiet
import Derived.RegionTactic
import Derived.ChangeAlike
namespace Go.Proofs.Ytlabedhfblibdaa.fnStringCopyEqualsOriginal
open Go.RowKit Go.Proofs.Ytlabedhfblibdaa
theorem ta23 (v : Value) (w : World) : (Instr.typeAssert (.iface 23 v) 30 23 true).run Try.prog w = .ok (.tuple #[v, .bool true]) w := by kernel_rfl
attribute [local go_sem] ta23
set_option maxHeartbeats 400000 in
theorem eq_any (b1 b2 : Nat) (s t : ByteArray) (w : World) (h1 : w.cell? ⟨b1, 0, none⟩ = some (.string s)) (h2 : w.cell? ⟨b2, 0, none⟩ = some (.string t)) :
    Calls Try.prog 6 #[.pointer (some ⟨b1, 0, none⟩), .iface 23 (.pointer (some ⟨b2, 0, none⟩))] w fun e w' => e = .returned (.bool (s.toList == t.toList)) ∧ ∃ n, w' = w.drewN n := by
  go_enter Try.func6, Try.ntmps6
  go_wp2
  go_quiet (fail)
  go_wp2
  go_ret
  exact ⟨rfl, _, rfl⟩
set_option linter.unusedVariables false in
set_option maxHeartbeats 1000000 in
theorem walk (a0 : ByteArray) (a1 : ByteArray) (w : World) (w0 : a0.size ≤ maxLen) (w1 : a1.size ≤ maxLen) :
    Calls Try.prog 3 #[.string a0, .string a1] w fun e w' => e = .returned (.bool true) ∧ Below w.heap.size w w' := by
  unfold maxLen at w0 w1
  by_cases h : a0.size + a1.size ≤ 1048576
  · by_cases h0 : a0.size ≤ 524288
    · by_cases h1 : a1.size ≤ 524288
      · have d0 : decide ((524288 : Int) < (a0.size : Int)) = false := by simp; omega
        have d1 : decide ((524288 : Int) < (a1.size : Int)) = false := by simp; omega
        have e1 : (a0.toList == a0.toList) = true := by simp
        have e2 : ∃ b, (a0.toList == a1.toList) = b := ⟨_, rfl⟩
        obtain ⟨b, e2⟩ := e2
        go_enter Try.func3, Try.ntmps3
        go_wp2_with (first | (go_at_call 4; go_in) | (go_at_call 5; go_in) | (go_at_call 7; go_in) | (go_at_call 25; go_in))
        refine (eq_any _ _ a0 a0 _ (by simp [go_sem]) (by simp [go_sem])).mono ?_
        rintro e w' ⟨rfl, q1, rfl⟩
        go_wp2_with (first | (go_at_call 4; go_in) | (go_at_call 5; go_in) | (go_at_call 7; go_in) | (go_at_call 25; go_in))
        refine (eq_any _ _ a0 a0 _ (by simp [go_sem]) (by simp [go_sem])).mono ?_
        rintro e w' ⟨rfl, q2, rfl⟩
        go_wp2_with (first | (go_at_call 4; go_in) | (go_at_call 5; go_in) | (go_at_call 7; go_in) | (go_at_call 25; go_in))
        refine (eq_any _ _ a0 a1 _ (by simp [go_sem]) (by simp [go_sem])).mono ?_
        rintro e w' ⟨rfl, q3, rfl⟩
        go_wp2_with (first | (go_at_call 4; go_in) | (go_at_call 5; go_in) | (go_at_call 7; go_in) | (go_at_call 25; go_in))
        refine (eq_any _ _ a0 a1 _ (by simp [go_sem]) (by simp [go_sem])).mono ?_
        rintro e w' ⟨rfl, q4, rfl⟩
        go_wp2_with (first | (go_at_call 4; go_in) | (go_at_call 5; go_in) | (go_at_call 7; go_in) | (go_at_call 25; go_in))
        refine (eq_any _ _ a0 a0 _ (by simp [go_sem]) (by simp [go_sem])).mono ?_
        rintro e w' ⟨rfl, q5, rfl⟩
        go_wp2
        go_ret
        refine ⟨by simp, below_drewN ?_ _⟩
        refine Below.alloc (below_drewN ?_ _) (by simp; omega) _
        refine Below.alloc (below_drewN ?_ _) (by simp; omega) _
        go_grown
      · have d0 : decide ((524288 : Int) < (a0.size : Int)) = false := by simp; omega
        have d1 : decide ((524288 : Int) < (a1.size : Int)) = true := by simp; omega
        go_enter Try.func3, Try.ntmps3
        go_wp2
        go_ret
        exact ⟨rfl, Below.refl _ _⟩
    · have d0 : decide ((524288 : Int) < (a0.size : Int)) = true := by simp; omega
      go_enter Try.func3, Try.ntmps3
      go_wp2
      go_ret
      exact ⟨rfl, Below.refl _ _⟩
  · go_enter Try.func3, Try.ntmps3
    go_wp2
    all_goals go_ret
    all_goals exact ⟨rfl, Below.refl _ _⟩
end Go.Proofs.Ytlabedhfblibdaa.fnStringCopyEqualsOriginal
