/- What internal/strconv.formatBase10 writes at a number that may be too great for its row by one digit: as a run over the row, a pair of places a step. No program in sight. -/
import Derived.Lib.ItoaMem
import Derived.Lib.ItoaNum
namespace Go.Proofs.YtdmmiiniikdapaaFmt
open Go.RowKit Go.Lib
/-- The places that are left, from the right on. -/
def fbRun : Nat → Nat → Array UInt8 → Array UInt8
  | 0, _, d => d
  | 1, v, d => d.setIfInBounds 0 (UInt8.ofNat (48 + v))
  | k + 2, v, d => fbRun k (v / 100) ((d.setIfInBounds (k + 1) (sm (v % 100 * 2 + 1))).setIfInBounds k (sm (v % 100 * 2)))
theorem fbRun_size : ∀ (n v : Nat) (d : Array UInt8), (fbRun n v d).size = d.size
  | 0, _, _ => rfl
  | 1, _, _ => by simp [fbRun]
  | k + 2, v, d => by rw [fbRun, fbRun_size k]; simp
/-- How far the run has come: nd places and the number v are left. -/
structure FbInv (d0 : Array UInt8) (u nd v : Nat) (dk : Array UInt8) : Prop where
  size : dk.size = d0.size
  le : nd ≤ d0.size
  lt : v < 10 ^ (nd + 1)
  top : v ≤ u
  run : fbRun nd v dk = fbRun d0.size u d0
theorem FbInv.start (d : Array UInt8) (u : Nat) (h : u < 10 ^ (d.size + 1)) : FbInv d u d.size u d := ⟨rfl, Nat.le_refl _, h, Nat.le_refl _, rfl⟩
theorem FbInv.step2 {d0 dk : Array UInt8} {u k v : Nat} (h : FbInv d0 u (k + 2) v dk) : FbInv d0 u k (v / 100) ((dk.setIfInBounds (k + 1) (sm (v % 100 * 2 + 1))).setIfInBounds k (sm (v % 100 * 2))) where
  size := by simpa using h.size
  le := by have := h.le; omega
  lt := by
    have := h.lt
    rw [show k + 2 + 1 = k + 1 + 2 by omega, Nat.pow_add] at this
    omega
  top := Nat.le_trans (Nat.div_le_self _ _) h.top
  run := h.run
theorem FbInv.step1 {d0 dk : Array UInt8} {u v : Nat} (h : FbInv d0 u 1 v dk) : dk.setIfInBounds 0 (UInt8.ofNat (48 + v)) = fbRun d0.size u d0 := h.run
theorem FbInv.done {d0 dk : Array UInt8} {u v : Nat} (h : FbInv d0 u 0 v dk) : dk = fbRun d0.size u d0 := h.run
/-- With fewer than eight places left the number is below 2^32. -/
theorem FbInv.small {d0 dk : Array UInt8} {u nd v : Nat} (h : FbInv d0 u nd v dk) (h8 : nd < 8) : v < 100000000 := by
  have h1 := h.lt
  have h2 : 10 ^ (nd + 1) ≤ 10 ^ 8 := Nat.pow_le_pow_right (by omega) (by omega)
  omega
/-- numDigits' answer is at most one too small. -/
theorem lt_pow (u q : Nat) (h1 : 1 ≤ u) (h2 : u < 18446744073709551616) (hq : q = l10 (bitLen u) ∨ q = l10 (bitLen u) + 1) : u < 10 ^ (q + 1) ∧ q ≤ 20 := by
  obtain ⟨ha, hb⟩ := numDigits_eq u h1 h2
  have hn : u < 10 ^ nDigits u := lt_pow_nDigits u
  rw [← ha] at hn
  refine ⟨Nat.lt_of_lt_of_le hn (Nat.pow_le_pow_right (by omega) ?_), by omega⟩
  split <;> omega
end Go.Proofs.YtdmmiiniikdapaaFmt
