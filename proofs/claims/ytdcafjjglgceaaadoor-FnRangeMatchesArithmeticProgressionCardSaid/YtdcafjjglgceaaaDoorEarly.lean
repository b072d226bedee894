/- The law's early ends: a count beyond 2^16, a step past the stop that would overflow. And the count, in plain words. -/
import Derived.Test.YtdcafjjglgceaaaDoorCore
namespace Go.Proofs.YtdcafjjglgceaaaDoor
open Go.RowKit

theorem dist_up {s p : Int} (hs0 : -9223372036854775808 ≤ s) (hs1 : s ≤ 9223372036854775807) (hp0 : -9223372036854775808 ≤ p) (hp1 : p ≤ 9223372036854775807) (h : s ≤ p) : IntKind.u64.wrap (IntKind.u64.wrap p - IntKind.u64.wrap s) = p - s := by
  simp only [IntKind.wrap, IntKind.bits, IntKind.signed]
  simp
  omega
theorem u64_small {x : Int} (h0 : 0 ≤ x) (h1 : x ≤ 18446744073709551615) : IntKind.u64.wrap x = x := by
  simp only [IntKind.wrap, IntKind.bits, IntKind.signed]
  simp
  omega
theorem quo_le (d u : Nat) : d / u ≤ d := Nat.div_le_self d u
theorem count_a {d u : Nat} (hd : d ≤ 18446744073709551615) (hm : ¬ d % u = 0) : IntKind.u64.wrap ((d : Int).tdiv (u : Int)) = ((d / u : Nat) : Int) ∧ ((d : Int).tmod (u : Int) != 0) = true ∧ IntKind.u64.wrap (((d / u : Nat) : Int) + 1) = (ceilD d u : Int) := by
  have hq := quo_le d u
  have h3 : d / u + 1 ≤ 18446744073709551615 := by
    rcases Nat.lt_or_ge 1 u with h | h
    · have : d / u ≤ d / 2 := Nat.div_le_div_left (by omega) (by omega)
      omega
    · rcases Nat.eq_zero_or_pos u with h0 | h0
      · subst h0; simp
      · obtain rfl : u = 1 := by omega
        omega
  have e1 : (d : Int).tdiv (u : Int) = ((d / u : Nat) : Int) := (Int.ofNat_tdiv d u).symm
  have e2 : (d : Int).tmod (u : Int) = ((d % u : Nat) : Int) := (Int.ofNat_tmod d u).symm
  unfold ceilD
  rw [e1, e2, if_neg hm]
  clear e1 e2
  generalize d / u = q at *
  generalize d % u = r at *
  refine ⟨u64_small (by omega) (by omega), ?_, ?_⟩
  · simp; omega
  · rw [u64_small (by omega) (by omega)]
    omega
theorem count_b {d u : Nat} (hd : d ≤ 18446744073709551615) (hm : d % u = 0) : IntKind.u64.wrap ((d : Int).tdiv (u : Int)) = (ceilD d u : Int) ∧ ((d : Int).tmod (u : Int) != 0) = false := by
  have hq := quo_le d u
  have e1 : (d : Int).tdiv (u : Int) = ((d / u : Nat) : Int) := (Int.ofNat_tdiv d u).symm
  have e2 : (d : Int).tmod (u : Int) = ((d % u : Nat) : Int) := (Int.ofNat_tmod d u).symm
  unfold ceilD
  rw [e1, e2, if_pos hm]
  clear e1 e2
  generalize d / u = q at *
  refine ⟨?_, by rw [hm]; rfl⟩
  rw [u64_small (by omega) (by omega)]
  omega
theorem count_1 {d : Nat} (hd : d ≤ 18446744073709551615) : IntKind.u64.wrap (d : Int) = (ceilD d 1 : Int) := by
  rw [u64_small (by omega) (by omega)]
  unfold ceilD
  rw [if_pos (Nat.mod_one d)]
  simp

set_option maxRecDepth 100000 in
set_option linter.unusedVariables false in
set_option maxHeartbeats 4000000 in
theorem big_up_3a (s p t : Int) (n : Nat) (D q : Int) (w : World) (hs0 : -9223372036854775808 ≤ s) (hs1 : s ≤ 9223372036854775807) (hp0 : -9223372036854775808 ≤ p) (hp1 : p ≤ 9223372036854775807) (ht : 0 < t) (ht1 : t ≤ 9223372036854775807) (hup : s ≤ p) (hn : 65536 < n) (hD : IntKind.u64.wrap (IntKind.u64.wrap p - IntKind.u64.wrap s) = D) (hq : IntKind.u64.wrap (D.tdiv t) = q) (hc1 : (D.tmod t != 0) = true) (hc2 : IntKind.u64.wrap (q + 1) = (n : Int)) :
    Calls Tryd.prog 3 #[.int .i64 s, .int .i64 p, .int .i64 t, .bool true] w fun e w' => e = .returned (.bool true) ∧ Below w.heap.size w w' := by
  go_enter Tryd.func3, Tryd.ntmps3
  go_wp2_with (go_at_call 4; fail)
  go_ret
  exact ⟨rfl, Below.refl _ _⟩
set_option maxRecDepth 100000 in
set_option linter.unusedVariables false in
set_option maxHeartbeats 4000000 in
theorem over_up_3a (s p t : Int) (n : Nat) (D q : Int) (w : World) (hs0 : -9223372036854775808 ≤ s) (hs1 : s ≤ 9223372036854775807) (hp0 : -9223372036854775808 ≤ p) (hp1 : p ≤ 9223372036854775807) (ht : 0 < t) (ht1 : t ≤ 9223372036854775807) (hup : s ≤ p) (hn : n ≤ 65536) (hm : 9223372036854775807 - t < p) (hD2 : IntKind.u64.wrap (p - IntKind.u64.wrap s) = D) (hD : IntKind.u64.wrap (IntKind.u64.wrap p - IntKind.u64.wrap s) = D) (hq : IntKind.u64.wrap (D.tdiv t) = q) (hc1 : (D.tmod t != 0) = true) (hc2 : IntKind.u64.wrap (q + 1) = (n : Int)) :
    Calls Tryd.prog 3 #[.int .i64 s, .int .i64 p, .int .i64 t, .bool true] w fun e w' => e = .returned (.bool true) ∧ Below w.heap.size w w' := by
  go_enter Tryd.func3, Tryd.ntmps3
  go_wp2_with (go_at_call 4; fail)
  go_ret
  exact ⟨rfl, Below.refl _ _⟩
set_option maxRecDepth 100000 in
set_option linter.unusedVariables false in
set_option maxHeartbeats 4000000 in
theorem big_up_3b (s p t : Int) (n : Nat) (D q : Int) (w : World) (hs0 : -9223372036854775808 ≤ s) (hs1 : s ≤ 9223372036854775807) (hp0 : -9223372036854775808 ≤ p) (hp1 : p ≤ 9223372036854775807) (ht : 0 < t) (ht1 : t ≤ 9223372036854775807) (hup : s ≤ p) (hn : 65536 < n) (hD : IntKind.u64.wrap (IntKind.u64.wrap p - IntKind.u64.wrap s) = D) (hq : IntKind.u64.wrap (D.tdiv t) = (n : Int)) (hc1 : (D.tmod t != 0) = false) :
    Calls Tryd.prog 3 #[.int .i64 s, .int .i64 p, .int .i64 t, .bool true] w fun e w' => e = .returned (.bool true) ∧ Below w.heap.size w w' := by
  go_enter Tryd.func3, Tryd.ntmps3
  go_wp2_with (go_at_call 4; fail)
  go_ret
  exact ⟨rfl, Below.refl _ _⟩
set_option maxRecDepth 100000 in
set_option linter.unusedVariables false in
set_option maxHeartbeats 4000000 in
theorem over_up_3b (s p t : Int) (n : Nat) (D q : Int) (w : World) (hs0 : -9223372036854775808 ≤ s) (hs1 : s ≤ 9223372036854775807) (hp0 : -9223372036854775808 ≤ p) (hp1 : p ≤ 9223372036854775807) (ht : 0 < t) (ht1 : t ≤ 9223372036854775807) (hup : s ≤ p) (hn : n ≤ 65536) (hm : 9223372036854775807 - t < p) (hD2 : IntKind.u64.wrap (p - IntKind.u64.wrap s) = D) (hD : IntKind.u64.wrap (IntKind.u64.wrap p - IntKind.u64.wrap s) = D) (hq : IntKind.u64.wrap (D.tdiv t) = (n : Int)) (hc1 : (D.tmod t != 0) = false) :
    Calls Tryd.prog 3 #[.int .i64 s, .int .i64 p, .int .i64 t, .bool true] w fun e w' => e = .returned (.bool true) ∧ Below w.heap.size w w' := by
  go_enter Tryd.func3, Tryd.ntmps3
  go_wp2_with (go_at_call 4; fail)
  go_ret
  exact ⟨rfl, Below.refl _ _⟩
set_option maxRecDepth 100000 in
set_option linter.unusedVariables false in
set_option maxHeartbeats 4000000 in
theorem big_up_2b (s p a2 : Int) (n : Nat) (D q : Int) (w : World) (hs0 : -9223372036854775808 ≤ s) (hs1 : s ≤ 9223372036854775807) (hp0 : -9223372036854775808 ≤ p) (hp1 : p ≤ 9223372036854775807) (hup : s ≤ p) (hn : 65536 < n) (hD : IntKind.u64.wrap (IntKind.u64.wrap p - IntKind.u64.wrap s) = D) (hq : IntKind.u64.wrap D = (n : Int)) :
    Calls Tryd.prog 3 #[.int .i64 s, .int .i64 p, .int .i64 a2, .bool false] w fun e w' => e = .returned (.bool true) ∧ Below w.heap.size w w' := by
  go_enter Tryd.func3, Tryd.ntmps3
  go_wp2_with (go_at_call 4; fail)
  go_ret
  exact ⟨rfl, Below.refl _ _⟩
set_option maxRecDepth 100000 in
set_option linter.unusedVariables false in
set_option maxHeartbeats 4000000 in
theorem over_up_2b (s p a2 : Int) (n : Nat) (D q : Int) (w : World) (hs0 : -9223372036854775808 ≤ s) (hs1 : s ≤ 9223372036854775807) (hp0 : -9223372036854775808 ≤ p) (hp1 : p ≤ 9223372036854775807) (hup : s ≤ p) (hn : n ≤ 65536) (hm : 9223372036854775807 - 1 < p) (hD2 : IntKind.u64.wrap (p - IntKind.u64.wrap s) = D) (hD : IntKind.u64.wrap (IntKind.u64.wrap p - IntKind.u64.wrap s) = D) (hq : IntKind.u64.wrap D = (n : Int)) :
    Calls Tryd.prog 3 #[.int .i64 s, .int .i64 p, .int .i64 a2, .bool false] w fun e w' => e = .returned (.bool true) ∧ Below w.heap.size w w' := by
  go_enter Tryd.func3, Tryd.ntmps3
  go_wp2_with (go_at_call 4; fail)
  go_ret
  exact ⟨rfl, Below.refl _ _⟩
set_option maxRecDepth 100000 in
set_option linter.unusedVariables false in
set_option maxHeartbeats 4000000 in
theorem big_dn_3a (s p t : Int) (n : Nat) (D q : Int) (w : World) (hs0 : -9223372036854775808 ≤ s) (hs1 : s ≤ 9223372036854775807) (hp0 : -9223372036854775808 ≤ p) (hp1 : p ≤ 9223372036854775807) (ht : 0 < t) (ht1 : t ≤ 9223372036854775807) (hup : p < s) (hn : 65536 < n) (hD : IntKind.u64.wrap (IntKind.u64.wrap s - IntKind.u64.wrap p) = D) (hq : IntKind.u64.wrap (D.tdiv t) = q) (hc1 : (D.tmod t != 0) = true) (hc2 : IntKind.u64.wrap (q + 1) = (n : Int)) :
    Calls Tryd.prog 3 #[.int .i64 s, .int .i64 p, .int .i64 t, .bool true] w fun e w' => e = .returned (.bool true) ∧ Below w.heap.size w w' := by
  go_enter Tryd.func3, Tryd.ntmps3
  go_wp2_with (go_at_call 4; fail)
  go_ret
  exact ⟨rfl, Below.refl _ _⟩
set_option maxRecDepth 100000 in
set_option linter.unusedVariables false in
set_option maxHeartbeats 4000000 in
theorem over_dn_3a (s p t : Int) (n : Nat) (D q : Int) (w : World) (hs0 : -9223372036854775808 ≤ s) (hs1 : s ≤ 9223372036854775807) (hp0 : -9223372036854775808 ≤ p) (hp1 : p ≤ 9223372036854775807) (ht : 0 < t) (ht1 : t ≤ 9223372036854775807) (hup : p < s) (hn : n ≤ 65536) (hm : p < -9223372036854775808 + t) (hD : IntKind.u64.wrap (IntKind.u64.wrap s - IntKind.u64.wrap p) = D) (hq : IntKind.u64.wrap (D.tdiv t) = q) (hc1 : (D.tmod t != 0) = true) (hc2 : IntKind.u64.wrap (q + 1) = (n : Int)) :
    Calls Tryd.prog 3 #[.int .i64 s, .int .i64 p, .int .i64 t, .bool true] w fun e w' => e = .returned (.bool true) ∧ Below w.heap.size w w' := by
  go_enter Tryd.func3, Tryd.ntmps3
  go_wp2_with (go_at_call 4; fail)
  go_ret
  exact ⟨rfl, Below.refl _ _⟩
set_option maxRecDepth 100000 in
set_option linter.unusedVariables false in
set_option maxHeartbeats 4000000 in
theorem big_dn_3b (s p t : Int) (n : Nat) (D q : Int) (w : World) (hs0 : -9223372036854775808 ≤ s) (hs1 : s ≤ 9223372036854775807) (hp0 : -9223372036854775808 ≤ p) (hp1 : p ≤ 9223372036854775807) (ht : 0 < t) (ht1 : t ≤ 9223372036854775807) (hup : p < s) (hn : 65536 < n) (hD : IntKind.u64.wrap (IntKind.u64.wrap s - IntKind.u64.wrap p) = D) (hq : IntKind.u64.wrap (D.tdiv t) = (n : Int)) (hc1 : (D.tmod t != 0) = false) :
    Calls Tryd.prog 3 #[.int .i64 s, .int .i64 p, .int .i64 t, .bool true] w fun e w' => e = .returned (.bool true) ∧ Below w.heap.size w w' := by
  go_enter Tryd.func3, Tryd.ntmps3
  go_wp2_with (go_at_call 4; fail)
  go_ret
  exact ⟨rfl, Below.refl _ _⟩
set_option maxRecDepth 100000 in
set_option linter.unusedVariables false in
set_option maxHeartbeats 4000000 in
theorem over_dn_3b (s p t : Int) (n : Nat) (D q : Int) (w : World) (hs0 : -9223372036854775808 ≤ s) (hs1 : s ≤ 9223372036854775807) (hp0 : -9223372036854775808 ≤ p) (hp1 : p ≤ 9223372036854775807) (ht : 0 < t) (ht1 : t ≤ 9223372036854775807) (hup : p < s) (hn : n ≤ 65536) (hm : p < -9223372036854775808 + t) (hD : IntKind.u64.wrap (IntKind.u64.wrap s - IntKind.u64.wrap p) = D) (hq : IntKind.u64.wrap (D.tdiv t) = (n : Int)) (hc1 : (D.tmod t != 0) = false) :
    Calls Tryd.prog 3 #[.int .i64 s, .int .i64 p, .int .i64 t, .bool true] w fun e w' => e = .returned (.bool true) ∧ Below w.heap.size w w' := by
  go_enter Tryd.func3, Tryd.ntmps3
  go_wp2_with (go_at_call 4; fail)
  go_ret
  exact ⟨rfl, Below.refl _ _⟩
set_option maxRecDepth 100000 in
set_option linter.unusedVariables false in
set_option maxHeartbeats 4000000 in
theorem big_dn_2b (s p a2 : Int) (n : Nat) (D q : Int) (w : World) (hs0 : -9223372036854775808 ≤ s) (hs1 : s ≤ 9223372036854775807) (hp0 : -9223372036854775808 ≤ p) (hp1 : p ≤ 9223372036854775807) (hup : p < s) (hn : 65536 < n) (hD : IntKind.u64.wrap (IntKind.u64.wrap s - IntKind.u64.wrap p) = D) (hq : IntKind.u64.wrap D = (n : Int)) :
    Calls Tryd.prog 3 #[.int .i64 s, .int .i64 p, .int .i64 a2, .bool false] w fun e w' => e = .returned (.bool true) ∧ Below w.heap.size w w' := by
  go_enter Tryd.func3, Tryd.ntmps3
  go_wp2_with (go_at_call 4; fail)
  go_ret
  exact ⟨rfl, Below.refl _ _⟩
set_option maxRecDepth 100000 in
set_option linter.unusedVariables false in
set_option maxHeartbeats 4000000 in
theorem over_dn_2b (s p a2 : Int) (n : Nat) (D q : Int) (w : World) (hs0 : -9223372036854775808 ≤ s) (hs1 : s ≤ 9223372036854775807) (hp0 : -9223372036854775808 ≤ p) (hp1 : p ≤ 9223372036854775807) (hup : p < s) (hn : n ≤ 65536) (hm : p < -9223372036854775808 + 1) (hD : IntKind.u64.wrap (IntKind.u64.wrap s - IntKind.u64.wrap p) = D) (hq : IntKind.u64.wrap D = (n : Int)) :
    Calls Tryd.prog 3 #[.int .i64 s, .int .i64 p, .int .i64 a2, .bool false] w fun e w' => e = .returned (.bool true) ∧ Below w.heap.size w w' := by
  go_enter Tryd.func3, Tryd.ntmps3
  go_wp2_with (go_at_call 4; fail)
  go_ret
  exact ⟨rfl, Below.refl _ _⟩
end Go.Proofs.YtdcafjjglgceaaaDoor
