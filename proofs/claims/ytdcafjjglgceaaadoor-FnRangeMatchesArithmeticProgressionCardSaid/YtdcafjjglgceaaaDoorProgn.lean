/- Plain facts on arithmetic progressions. No program in sight. -/
import Derived.Below
namespace Go.Proofs.YtdcafjjglgceaaaDoor

/-- The first n members of the progression from s in steps of t. -/
def prog (s t : Int) (n : Nat) : List Int := (List.range n).map fun (k : Nat) => s + (k : Int) * t

theorem prog_snoc (s t : Int) (k : Nat) : prog s t (k + 1) = prog s t k ++ [s + (k : Int) * t] := by
  simp [prog, List.range_succ]
theorem prog_len (s t : Int) (n : Nat) : (prog s t n).length = n := by simp [prog]
theorem prog_get (s t : Int) (n k : Nat) (h : k < n) : (prog s t n)[k]? = some (s + (k : Int) * t) := by
  simp [prog, h]
theorem prog_step (s t : Int) (k : Nat) : s + (k : Int) * t + t = s + ((k + 1 : Nat) : Int) * t := by
  rw [Int.natCast_add, Int.add_mul]
  simp
  omega
theorem mul_mono {t : Int} {a b : Nat} (ht : 0 < t) (h : a ≤ b) : (a : Int) * t ≤ (b : Int) * t :=
  Int.mul_le_mul_of_nonneg_right (by omega) (by omega)
theorem lt_of_prog {s t p : Int} {k n : Nat} (ht : 0 < t) (h : s + (k : Int) * t < p) (hp : p ≤ s + (n : Int) * t) : k < n := by
  rcases Nat.lt_or_ge k n with h' | h'
  · exact h'
  · have := mul_mono ht h'
    omega

theorem lt_of_prog_down {s t p : Int} {k n : Nat} (ht : 0 < t) (h : p < s + (k : Int) * (-t)) (hp : s + (n : Int) * (-t) ≤ p) : k < n := by
  rcases Nat.lt_or_ge k n with h' | h'
  · exact h'
  · have := mul_mono ht h'
    rw [Int.mul_neg] at h hp
    omega

/-- How many members lie short of the stop: the distance over the step, rounded up. -/
def ceilD (d t : Nat) : Nat := d / t + if d % t = 0 then 0 else 1

theorem ceilD_lt {d t k : Nat} (ht : 0 < t) (h : k < ceilD d t) : k * t < d := by
  unfold ceilD at h
  have hm := Nat.div_add_mod d t
  have hr := Nat.mod_lt d ht
  split at h
  · have h1 : (k + 1) * t ≤ (d / t) * t := Nat.mul_le_mul_right _ (by omega)
    rw [Nat.mul_comm t (d / t)] at hm
    rw [Nat.succ_mul] at h1
    omega
  · have h1 : k * t ≤ (d / t) * t := Nat.mul_le_mul_right _ (by omega)
    rw [Nat.mul_comm t (d / t)] at hm
    omega
theorem ceilD_ge {d t : Nat} (ht : 0 < t) : d ≤ ceilD d t * t := by
  unfold ceilD
  have hm := Nat.div_add_mod d t
  have hr := Nat.mod_lt d ht
  rw [Nat.mul_comm t (d / t)] at hm
  split
  · rw [Nat.add_zero]; omega
  · rw [Nat.add_mul]; omega
theorem up_facts {s p t : Int} {d u : Nat} (ht : 0 < t) (hd : (d : Int) = p - s) (hu : (u : Int) = t) : (∀ k : Nat, k < ceilD d u → s + (k : Int) * t < p) ∧ p ≤ s + (ceilD d u : Int) * t := by
  subst hu
  have hu0 : 0 < u := by omega
  refine ⟨fun k hk => ?_, ?_⟩
  · have h := ceilD_lt hu0 hk
    have h2 : ((k * u : Nat) : Int) < (d : Int) := by omega
    rw [Int.natCast_mul] at h2
    omega
  · have h := ceilD_ge (d := d) hu0
    have h2 : (d : Int) ≤ ((ceilD d u * u : Nat) : Int) := by omega
    rw [Int.natCast_mul] at h2
    omega
theorem down_facts {s p t : Int} {d u : Nat} (ht : 0 < t) (hd : (d : Int) = s - p) (hu : (u : Int) = t) : (∀ k : Nat, k < ceilD d u → p < s + (k : Int) * (-t)) ∧ s + (ceilD d u : Int) * (-t) ≤ p := by
  subst hu
  have hu0 : 0 < u := by omega
  refine ⟨fun k hk => ?_, ?_⟩
  · have h := ceilD_lt hu0 hk
    have h2 : ((k * u : Nat) : Int) < (d : Int) := by omega
    rw [Int.natCast_mul] at h2
    rw [Int.mul_neg]
    omega
  · have h := ceilD_ge (d := d) hu0
    have h2 : (d : Int) ≤ ((ceilD d u * u : Nat) : Int) := by omega
    rw [Int.natCast_mul] at h2
    rw [Int.mul_neg]
    omega
end Go.Proofs.YtdcafjjglgceaaaDoor
