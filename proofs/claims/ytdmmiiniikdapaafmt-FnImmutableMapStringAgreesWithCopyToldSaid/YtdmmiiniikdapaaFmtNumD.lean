/- internal/strconv.numDigits at any table: the count that it answers. Condition: a number from 1 to 2^64 - 1. -/
import Derived.Test.YtdmmiiniikdapaaFmtBase
import Derived.Test.YtdmmiiniikdapaaFmtShelfN
import Derived.Handy
import Derived.WalkLawsBesides
import Derived.WalkSpells
namespace Go.Proofs.YtdmmiiniikdapaaFmt
open Go.RowKit
/-- How many digits numDigits answers at u, the table's entry being t. -/
def ndT (t : Int) (u : Nat) : Nat := Lib.l10 (Lib.bitLen u) + (if t ≤ (u : Int) then 1 else 0)
set_option maxHeartbeats 1000000 in
theorem numD_any (u : Nat) (h1 : 1 ≤ u) (h2 : u < 18446744073709551616) (t : Int) (w : World) (hcell : w.cell? ⟨1, Lib.l10 (Lib.bitLen u), none⟩ = some (.int .u64 t)) :
    Calls Tryf.prog 49 #[.int .u64 (u : Int)] w fun e w' => e = .returned (.int .i64 (ndT t u : Int)) ∧ w = w' := by
  have hL : Lib.bitLen u ≤ 64 := Lib.bitLen_le u 64 (Nat.le_refl _) h2
  have hq := (Lib.numDigits_eq u h1 h2).2
  have cL := Tryf.bits_Len64 (u : Int) w (by omega) (by omega)
  have hto : ((u : Int)).toNat = u := by omega
  rw [hto] at cL
  have cP := Tryf.internal_strconv_log10Pow2 (Lib.bitLen u) hL
  have HL := hide cL
  have HP := hide cP
  unfold ndT
  generalize Lib.l10 (Lib.bitLen u) = q at *
  generalize Lib.bitLen u = bl at *
  clear cL cP hto hL h1 h2
  by_cases hle : t ≤ (u : Int)
  · have d : decide (t ≤ (u : Int)) = true := by simpa using hle
    rw [if_pos hle]
    clear hle
    go_enter Tryf.func49, Tryf.ntmps49
    go_wp2_with (first | (go_at_call 53; refine HL.out.mono ?_; rintro e w' ⟨rfl, rfl⟩) | (go_at_call 52; refine (HP.out _).mono ?_; rintro e w' ⟨rfl, rfl⟩) | (go_at_call 54; refine (Tryf.internal_strconv_bool2_int _ _).mono ?_; rintro e w' ⟨rfl, rfl⟩))
    go_ret
    exact ⟨by simp, rfl⟩
  · have d : decide (t ≤ (u : Int)) = false := by simp; omega
    rw [if_neg hle]
    clear hle
    go_enter Tryf.func49, Tryf.ntmps49
    go_wp2_with (first | (go_at_call 53; refine HL.out.mono ?_; rintro e w' ⟨rfl, rfl⟩) | (go_at_call 52; refine (HP.out _).mono ?_; rintro e w' ⟨rfl, rfl⟩) | (go_at_call 54; refine (Tryf.internal_strconv_bool2_int _ _).mono ?_; rintro e w' ⟨rfl, rfl⟩))
    go_ret
    exact ⟨by simp, rfl⟩
end Go.Proofs.YtdmmiiniikdapaaFmt
