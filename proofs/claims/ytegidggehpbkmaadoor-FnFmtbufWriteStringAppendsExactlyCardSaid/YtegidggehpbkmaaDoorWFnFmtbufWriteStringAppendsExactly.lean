/- The law FnFmtbufWriteStringAppendsExactly walked: the call returns true and writes nothing that was there. Its conditions: none beyond the arguments' types. -/
import Derived.Test.YtegidggehpbkmaaDoorProg
import Derived.Test.YtegidggehpbkmaaDoorBase
import Derived.Test.YtegidggehpbkmaaDoorRows
import Derived.Handy
import Derived.Outline
import Derived.WalkLawsBesides
import Derived.WalkSpells
import Derived.Deep.QuietTactic
import Derived.BigQuiet
import Derived.RegionTactic
import Derived.ChangeAlike
import Derived.Test.YtegidggehpbkmaaDoorLaid
import Derived.Test.YtegidggehpbkmaaDoorZZWrite
import Derived.Test.YtegidggehpbkmaaDoorCat
import Derived.Test.YtegidggehpbkmaaDoorCatStr
import Derived.Test.YtegidggehpbkmaaDoorEq
import Derived.MakeChecks
namespace Go.Proofs.YtegidggehpbkmaaDoor.fnFmtbufWriteStringAppendsExactly
open Go.RowKit Go.Proofs.YtegidggehpbkmaaDoor
theorem maxCell {w : World} (hL : laidMetH Tryd.prog Rows.fnFmtbufWriteStringAppendsExactlyRow.laid w) : w.cell? ⟨0, 0, none⟩ = some (.int .i64 2147483647) := by
  rw [MakeChecks.laidMetH_plain _ _ _ (by kernel_rfl)] at hL
  exact laid_int (t := 3) hL (n := "github.com/d5/tengo/v2.MaxStringLen") (by simp [Rows.fnFmtbufWriteStringAppendsExactlyRow, Rows.laid_github_com_d5_tengo_v2_MaxStringLen]) (by kernel_rfl) (by kernel_rfl) Tryd.underlying3
set_option linter.unusedVariables false in
set_option maxHeartbeats 1000000 in
theorem walk (a0 : Option Addr) (len0 cap0 : Nat) (z0 : List UInt8) (a1 : ByteArray) (w : World) (w0 : SlIn w w.heap.size a0 len0 cap0 (z0.map bt)) (w1 : a1.size ≤ maxLen) (hL : laidMetH Tryd.prog Rows.fnFmtbufWriteStringAppendsExactlyRow.laid w) :
    Calls Tryd.prog 3 #[.slice a0 len0 cap0, .string a1] w fun e w' => e = .returned (.bool true) ∧ Below w.heap.size w w' := by
  have t0 := w0.top
  have l0 := w0.le
  unfold maxLen at t0 w1
  have HM := hide (maxCell hL)
  have S0 := hide w0
  clear hL w0
  by_cases h : len0 + a1.size ≤ 1048576
  · by_cases h0 : len0 ≤ 524288
    · by_cases h1 : a1.size ≤ 524288
      · have d0 : decide ((524288 : Int) < (len0 : Int)) = false := by simp; omega
        have d1 : decide ((524288 : Int) < (a1.size : Int)) = false := by simp; omega
        go_enter Tryd.func3, Tryd.ntmps3
        go_wp2_with (go_at_call 7; go_in)
        refine (clone_any a0 len0 cap0 z0 w S0.out (by omega)).mono ?_
        rintro e w1 ⟨A1, c1, rfl, ho1, hb1⟩
        have O1 := hide (SlIn.of_own ho1)
        have B1 := hide hb1
        clear ho1 hb1
        go_wp2_with fail
        refine (clone_any A1 len0 c1 z0 w1 O1.out (by omega)).mono ?_
        rintro e w2 ⟨A2, c2, rfl, ho2, hb2⟩
        have O2 := hide ho2
        have B2 := hide hb2
        clear ho2 hb2
        go_wp2_with fail
        refine (zzWriteString_any w1.heap.size A2 len0 c2 (z0.map bt) a1 w2 O2.out B2.out.size ?hm (by omega)).mono ?_
        case hm => rw [B2.out.cell, B1.out.cell, HM.out] <;> have h9 := World.block_lt_of_cell? w _ HM.out <;> have := B1.out.size <;> simp at h9 ⊢ <;> omega
        rintro e w3 ⟨A3, c3, rfl, ho3, hb3⟩
        have O3 := hide (SlIn.of_own (xs := (z0 ++ a1.data.toList).map bt) (by rw [List.map_append]; exact ho3))
        have b23 := hide (B2.out.trans hb3)
        clear ho3 hb3
        go_wp2_with fail
        refine (catStr_any A1 len0 c1 z0 a1 w3 ((O1.out.below b23.out (Nat.le_refl _)).mono b23.out.size) (by omega) (by omega)).mono ?_
        rintro e w4 ⟨A4, c4, rfl, ho4, hb4⟩
        have O4 := hide (SlIn.of_own ho4)
        have B4 := hide hb4
        clear ho4 hb4
        go_wp2_with fail
        refine (eq_any A3 A4 _ c3 _ c4 (z0 ++ a1.data.toList) (z0 ++ a1.data.toList) w4 ((O3.out.below B4.out (Nat.le_refl _)).mono B4.out.size) O4.out (by omega) (by omega)).mono ?_
        rintro e w5 ⟨rfl, q, rfl⟩
        have hbb : ((z0 ++ a1.data.toList) == (z0 ++ a1.data.toList)) = true := by simp
        go_wp2
        go_ret
        refine ⟨by simp, below_drewN ?_ _⟩
        have s1 := B1.out.size
        have s2 := b23.out.size
        exact B1.out.trans ((b23.out.mono s1).trans (B4.out.mono (by omega)))
      · have d0 : decide ((524288 : Int) < (len0 : Int)) = false := by simp; omega
        have d1 : decide ((524288 : Int) < (a1.size : Int)) = true := by simp; omega
        go_enter Tryd.func3, Tryd.ntmps3
        go_wp2
        go_ret
        exact ⟨rfl, Below.refl _ _⟩
    · have d0 : decide ((524288 : Int) < (len0 : Int)) = true := by simp; omega
      go_enter Tryd.func3, Tryd.ntmps3
      go_wp2
      go_ret
      exact ⟨rfl, Below.refl _ _⟩
  · go_enter Tryd.func3, Tryd.ntmps3
    go_wp2
    all_goals go_ret
    all_goals exact ⟨rfl, Below.refl _ _⟩
end Go.Proofs.YtegidggehpbkmaaDoor.fnFmtbufWriteStringAppendsExactly
