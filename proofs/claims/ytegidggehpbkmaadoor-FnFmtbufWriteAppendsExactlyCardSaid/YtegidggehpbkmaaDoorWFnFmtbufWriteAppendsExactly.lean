/- The law FnFmtbufWriteAppendsExactly walked: the call returns true and writes nothing that was there. Its conditions: none beyond the arguments' types. -/
import Derived.Test.YtegidggehpbkmaaDoorProg
import Derived.Test.YtegidggehpbkmaaDoorBase
import Derived.Test.YtegidggehpbkmaaDoorRows
import Derived.Handy
import Derived.Outline
import Derived.WalkLawsBesides
import Derived.WalkSpells
import Derived.Deep.QuietTactic
import Derived.BigQuiet
import Derived.RegionTactic
import Derived.ChangeAlike
import Derived.Test.YtegidggehpbkmaaDoorLaid
import Derived.Test.YtegidggehpbkmaaDoorZZWrite
import Derived.Test.YtegidggehpbkmaaDoorCat
import Derived.Test.YtegidggehpbkmaaDoorEq
import Derived.MakeChecks
namespace Go.Proofs.YtegidggehpbkmaaDoor.fnFmtbufWriteAppendsExactly
open Go.RowKit Go.Proofs.YtegidggehpbkmaaDoor
theorem maxCell {w : World} (hL : laidMetH Tryd.prog Rows.fnFmtbufWriteAppendsExactlyRow.laid w) : w.cell? ⟨0, 0, none⟩ = some (.int .i64 2147483647) := by
  rw [MakeChecks.laidMetH_plain _ _ _ (by kernel_rfl)] at hL
  exact laid_int (t := 3) hL (n := "github.com/d5/tengo/v2.MaxStringLen") (by simp [Rows.fnFmtbufWriteAppendsExactlyRow, Rows.laid_github_com_d5_tengo_v2_MaxStringLen]) (by kernel_rfl) (by kernel_rfl) Tryd.underlying3
set_option maxHeartbeats 400000 in
theorem bytes_yes (a a' : Option Addr) (n c m d : Nat) (w : World) (h : n + m ≤ 1048576) : Calls Tryd.prog 12 #[.slice a n c, .slice a' m d] w fun e w' => e = .returned (.bool true) ∧ w = w' := by
  go_enter Tryd.func12, Tryd.ntmps12
  go_wp2
  go_ret
  exact ⟨rfl, rfl⟩
set_option maxHeartbeats 400000 in
theorem bytes_no (a a' : Option Addr) (n c m d : Nat) (w : World) (hn : n ≤ 9223372036854775807) (hm : m ≤ 9223372036854775807) (h : ¬ n + m ≤ 1048576) : Calls Tryd.prog 12 #[.slice a n c, .slice a' m d] w fun e w' => e = .returned (.bool false) ∧ w = w' := by
  by_cases h1 : n ≤ 1048576
  · by_cases h2 : m ≤ 1048576
    · go_enter Tryd.func12, Tryd.ntmps12
      go_wp2
      go_ret
      exact ⟨rfl, rfl⟩
    · go_enter Tryd.func12, Tryd.ntmps12
      go_wp2
      go_ret
      exact ⟨rfl, rfl⟩
  · go_enter Tryd.func12, Tryd.ntmps12
    go_wp2
    go_ret
    exact ⟨rfl, rfl⟩
set_option linter.unusedVariables false in
set_option maxHeartbeats 1000000 in
theorem walk (a0 : Option Addr) (len0 cap0 : Nat) (z0 : List UInt8) (a1 : Option Addr) (len1 cap1 : Nat) (z1 : List UInt8) (w : World) (w0 : SlIn w w.heap.size a0 len0 cap0 (z0.map bt)) (w1 : SlIn w w.heap.size a1 len1 cap1 (z1.map bt)) (hL : laidMetH Tryd.prog Rows.fnFmtbufWriteAppendsExactlyRow.laid w) :
    Calls Tryd.prog 4 #[.slice a0 len0 cap0, .slice a1 len1 cap1] w fun e w' => e = .returned (.bool true) ∧ Below w.heap.size w w' := by
  have t0 := w0.top
  have t1 := w1.top
  have l0 := w0.le
  have l1 := w1.le
  unfold maxLen at t0 t1
  have HM := hide (maxCell hL)
  have S0 := hide w0
  have S1 := hide w1
  clear hL w0 w1
  by_cases h : len0 + len1 ≤ 1048576
  · by_cases h0 : len0 ≤ 524288
    · by_cases h1 : len1 ≤ 524288
      · have d0 : decide ((524288 : Int) < (len0 : Int)) = false := by simp; omega
        have d1 : decide ((524288 : Int) < (len1 : Int)) = false := by simp; omega
        go_enter Tryd.func4, Tryd.ntmps4
        go_wp2_with fail
        refine (bytes_yes _ _ _ _ _ _ _ h).mono ?_
        rintro e w' ⟨rfl, rfl⟩
        go_wp2_with fail
        refine (clone_any a0 len0 cap0 z0 w S0.out (by omega)).mono ?_
        rintro e w1 ⟨A1, c1, rfl, ho1, hb1⟩
        have O1 := hide (SlIn.of_own ho1)
        have B1 := hide hb1
        clear ho1 hb1
        go_wp2_with fail
        refine (clone_any a1 len1 cap1 z1 w1 ((S1.out.below B1.out (Nat.le_refl _)).mono B1.out.size) (by omega)).mono ?_
        rintro e w2 ⟨A2, c2, rfl, ho2, hb2⟩
        have O2 := hide (SlIn.of_own ho2)
        have B2 := hide hb2
        clear ho2 hb2
        go_wp2_with fail
        refine (clone_any A1 len0 c1 z0 w2 ((O1.out.below B2.out (Nat.le_refl _)).mono B2.out.size) (by omega)).mono ?_
        rintro e w3 ⟨A3, c3, rfl, ho3, hb3⟩
        have O3 := hide ho3
        have B3 := hide hb3
        clear ho3 hb3
        go_wp2_with fail
        refine (zzWrite_any w2.heap.size A3 A2 len0 c3 len1 c2 (z0.map bt) z1 w3 O3.out B3.out.size ((O2.out.below B3.out (Nat.le_refl _)).mono B3.out.size) ?hm (by omega)).mono ?_
        case hm => rw [B3.out.cell, B2.out.cell, B1.out.cell, HM.out] <;> have h9 := World.block_lt_of_cell? w _ HM.out <;> have := B1.out.size <;> have := B2.out.size <;> simp at h9 ⊢ <;> omega
        rintro e w4 ⟨A4, c4, rfl, ho4, hb4⟩
        have O4 := hide (SlIn.of_own (xs := (z0 ++ z1).map bt) (by rw [List.map_append]; exact ho4))
        have B4 := hide hb4
        clear ho4 hb4
        go_wp2_with fail
        have b34 := hide (B3.out.trans B4.out)
        refine (cat_any A1 A2 len0 c1 len1 c2 z0 z1 w4 ((((O1.out.below B2.out (Nat.le_refl _)).mono B2.out.size).below b34.out (Nat.le_refl _)).mono b34.out.size) ((O2.out.below b34.out (Nat.le_refl _)).mono b34.out.size) (by omega) (by omega)).mono ?_
        rintro e w5 ⟨A5, c5, rfl, ho5, hb5⟩
        have O5 := hide (SlIn.of_own ho5)
        have B5 := hide hb5
        clear ho5 hb5
        go_wp2_with fail
        refine (eq_any A4 A5 _ c4 _ c5 (z0 ++ z1) (z0 ++ z1) w5 ((O4.out.below B5.out (Nat.le_refl _)).mono B5.out.size) O5.out (by omega) (by omega)).mono ?_
        rintro e w6 ⟨rfl, q, rfl⟩
        have hbb : ((z0 ++ z1) == (z0 ++ z1)) = true := by simp
        go_wp2
        go_ret
        refine ⟨by simp, below_drewN ?_ _⟩
        have s1 := B1.out.size
        have s2 := B2.out.size
        have s3 := b34.out.size
        exact B1.out.trans ((B2.out.mono s1).trans ((b34.out.mono (by omega)).trans (B5.out.mono (by omega))))
      · have d0 : decide ((524288 : Int) < (len0 : Int)) = false := by simp; omega
        have d1 : decide ((524288 : Int) < (len1 : Int)) = true := by simp; omega
        go_enter Tryd.func4, Tryd.ntmps4
        go_wp2_with fail
        refine (bytes_yes _ _ _ _ _ _ _ h).mono ?_
        rintro e w' ⟨rfl, rfl⟩
        go_wp2
        go_ret
        exact ⟨rfl, Below.refl _ _⟩
    · have d0 : decide ((524288 : Int) < (len0 : Int)) = true := by simp; omega
      go_enter Tryd.func4, Tryd.ntmps4
      go_wp2_with fail
      refine (bytes_yes _ _ _ _ _ _ _ h).mono ?_
      rintro e w' ⟨rfl, rfl⟩
      go_wp2
      go_ret
      exact ⟨rfl, Below.refl _ _⟩
  · go_enter Tryd.func4, Tryd.ntmps4
    go_wp2_with fail
    refine (bytes_no _ _ _ _ _ _ _ (by omega) (by omega) h).mono ?_
    rintro e w' ⟨rfl, rfl⟩
    go_wp2
    go_ret
    exact ⟨rfl, Below.refl _ _⟩
end Go.Proofs.YtegidggehpbkmaaDoor.fnFmtbufWriteAppendsExactly
