/- The law FnFmtQcPlusExactASCIIQuote walked: the call returns true and writes nothing that was there. Its conditions: none beyond the arguments' types. -/
import Derived.Test.YtokibffjabomhaaDoorProg
import Derived.Test.YtokibffjabomhaaDoorBase
import Derived.Test.YtokibffjabomhaaDoorRows
import Derived.Handy
import Derived.Outline
import Derived.WalkLawsBesides
import Derived.WalkSpells
import Derived.Deep.QuietTactic
import Derived.BigQuiet
import Derived.RegionTactic
import Derived.ChangeAlike
import Derived.Test.YtokibffjabomhaaDoorLaid
import Derived.Test.YtokibffjabomhaaDoorFQ4
import Derived.Test.YtokibffjabomhaaDoorEq
import Derived.MakeChecks
import Derived.WalkSmall
namespace Go.Proofs.YtokibffjabomhaaDoor.fnFmtQcPlusExactASCIIQuote
open Go.RowKit Go.Proofs.YtokibffjabomhaaDoor
theorem maxCell {w : World} (hL : laidMetH Tryd.prog Rows.fnFmtQcPlusExactASCIIQuoteRow.laid w) : w.cell? ⟨0, 0, none⟩ = some (.int .i64 2147483647) := by
  rw [MakeChecks.laidMetH_plain _ _ _ (by kernel_rfl)] at hL
  exact laid_int (t := 3) hL (n := "github.com/d5/tengo/v2.MaxStringLen") (by simp [Rows.fnFmtQcPlusExactASCIIQuoteRow, Rows.laid_github_com_d5_tengo_v2_MaxStringLen]) (by kernel_rfl) (by kernel_rfl) Tryd.underlying3
theorem tab {w : World} (hL : laidMetH Tryd.prog Rows.fnFmtQcPlusExactASCIIQuoteRow.laid w) : Lib.PrintTabsAt 2 3 4 5 Lib.goPrintTabs w := by
  rw [MakeChecks.laidMetH_plain _ _ _ (by kernel_rfl)] at hL
  refine tabsP hL ?_ ?_ ?_ ?_
  · simp [Rows.fnFmtQcPlusExactASCIIQuoteRow, Rows.laid_strconv_isPrint16]
  · simp [Rows.fnFmtQcPlusExactASCIIQuoteRow, Rows.laid_strconv_isNotPrint16]
  · simp [Rows.fnFmtQcPlusExactASCIIQuoteRow, Rows.laid_strconv_isPrint32]
  · simp [Rows.fnFmtQcPlusExactASCIIQuoteRow, Rows.laid_strconv_isNotPrint32]
set_option linter.unusedVariables false in
set_option maxHeartbeats 1000000 in
theorem walk (a0 : Option Addr) (len0 cap0 : Nat) (z0 : List UInt8) (a1 : Bool) (a2 : Bool) (a3 : Bool) (a4 : Int) (a5 : Int) (w : World) (w0 : SlIn w w.heap.size a0 len0 cap0 (z0.map bt)) (w4 : (Lit.int .i64 a4).wf = true) (w5 : (Lit.int .u64 a5).wf = true) (hL : laidMetH Tryd.prog Rows.fnFmtQcPlusExactASCIIQuoteRow.laid w) :
    Calls Tryd.prog 3 #[.slice a0 len0 cap0, .bool a1, .bool a2, .bool a3, .int .i64 a4, .int .u64 a5] w fun e w' => e = .returned (.bool true) ∧ Below w.heap.size w w' := by
  have t0 := w0.top
  have l0 := w0.le
  unfold maxLen at t0
  have hw4 := bounds_i64 w4
  have hw5 := bounds_u64 w5
  have HM := hide (maxCell hL)
  have HT := hide (tab hL)
  have HP : Hid (0 < w.heap.size) := World.block_lt_of_cell? w _ HM.out
  have S0 := hide w0
  clear hL w0 w4 w5
  by_cases h : len0 ≤ 1048576
  · by_cases h1 : 0 ≤ a4 ∧ a4 ≤ 65536
    · obtain ⟨h11, h12⟩ := h1
      have d1 : decide (a4 < 0) = false := by simp; omega
      have d2 : decide (65536 < a4) = false := by simp; omega
      by_cases hmz : a1 = true ∧ a2 = true
      · obtain ⟨rfl, rfl⟩ := hmz
        go_enter Tryd.func3, Tryd.ntmps3
        go_wp2_with (go_at_call 5; go_in)
        go_ret
        exact ⟨rfl, Below.refl _ _⟩
      · cases a1 <;> cases a2
        case true.true => exact absurd ⟨rfl, rfl⟩ hmz
        case false.false =>
          clear hmz
          go_enter Tryd.func3, Tryd.ntmps3
          go_wp2_with (go_at_call 5; go_in)
          refine (clone_any a0 len0 cap0 z0 w S0.out (by omega)).mono ?_
          rintro e w1 ⟨A1, c1, rfl, ho1, hb1⟩
          have O1 := hide (SlIn.of_own ho1)
          have B1 := hide hb1
          have M1 := hide (cellOn HM.out hb1 HP.out)
          have P1 : Hid (0 < w1.heap.size) := Nat.lt_of_lt_of_le HP.out hb1.size
          clear ho1 hb1
          go_wp2_with fail
          refine (clone_any A1 len0 c1 z0 w1 O1.out (by omega)).mono ?_
          rintro e w2 ⟨A2, c2, rfl, ho2, hb2⟩
          have O2 := hide ho2
          have B2 := hide hb2
          have M2 := hide (cellOn M1.out hb2 P1.out)
          have TF := hide (tabsFrom HT.out B1.out.size (B1.out.trans (hb2.mono B1.out.size)))
          clear ho2 hb2
          go_wp2_with fail
          refine (zzfmt_plus Lib.goPrintTabs w1.heap.size A2 len0 c2 z0 false false a3 a4 a5 w2 O2.out B2.out.size M2.out P1.out (by omega) (by omega) (by omega) TF.out hw5.1 hw5.2).mono ?_
          have hq := qB_len Lib.goPrintTabs true a5
          have cZ := fun w => zquoteB Lib.goPrintTabs a5 w hw5.1 hw5.2
          generalize qB Lib.goPrintTabs true a5 = q at hq cZ ⊢
          have CZ := hide cZ
          clear cZ
          have hrm : room a3 a4 q.length ≤ 65536 := by
            unfold room
            split <;> omega
          rintro e w3 ⟨A3, c3, rfl, ho3, hb3⟩
          have O3 := hide (SlIn.of_own ho3)
          have B3 := hide (B2.out.trans hb3)
          have O13 := hide ((O1.out.below B3.out (Nat.le_refl _)).mono B3.out.size)
          clear ho3 hb3
          go_wp2_with fail
          refine (CZ.out w3).mono ?_
          rintro e w4 ⟨A4, c4, rfl, hin4, hb4⟩
          have O4 := hide hin4
          have B4 := hide hb4
          have O14 := hide ((O13.out.below hb4 (Nat.le_refl _)).mono hb4.size)
          have O34 := hide ((O3.out.below hb4 (Nat.le_refl _)).mono hb4.size)
          clear hin4 hb4
          go_wp2_with fail
          refine (padWith_at A4 _ c4 q a3 false false a4 32 rfl w4 O4.out (by omega) h11 h12).mono ?_
          rintro e w5 ⟨A5, c5, rfl, hin5, hb5⟩
          have O5 := hide hin5
          have B5 := hide hb5
          have O15 := hide ((O14.out.below hb5 (Nat.le_refl _)).mono hb5.size)
          have O35 := hide ((O34.out.below hb5 (Nat.le_refl _)).mono hb5.size)
          clear hin5 hb5
          go_wp2_with fail
          refine (cat_any A1 A5 len0 c1 _ c5 z0 _ w5 O15.out O5.out (by omega) (by omega)).mono ?_
          rintro e w6 ⟨A6, c6, rfl, ho6, hb6⟩
          have O6 := hide (SlIn.of_own ho6)
          have B6 := hide hb6
          have O36 := hide ((O35.out.below hb6 (Nat.le_refl _)).mono hb6.size)
          clear ho6 hb6
          go_wp2_with fail
          refine (eq_any A3 A6 _ c3 _ c6 _ _ w6 O36.out O6.out (by omega) (by omega)).mono ?_
          rintro e w7 ⟨rfl, qq, rfl⟩
          go_wp2
          go_ret
          have s1 := B1.out.size
          have s3 := Nat.le_trans s1 B3.out.size
          have s4 := Nat.le_trans s3 B4.out.size
          have s5 := Nat.le_trans s4 B5.out.size
          have BF := B1.out.trans ((B3.out.mono s1).trans ((B4.out.mono s3).trans ((B5.out.mono s4).trans (B6.out.mono s5))))
          exact ⟨by simp, BF.os, BF.tape, BF.output, BF.size, BF.block⟩
        case false.true =>
          clear hmz
          go_enter Tryd.func3, Tryd.ntmps3
          go_wp2_with (go_at_call 5; go_in)
          refine (clone_any a0 len0 cap0 z0 w S0.out (by omega)).mono ?_
          rintro e w1 ⟨A1, c1, rfl, ho1, hb1⟩
          have O1 := hide (SlIn.of_own ho1)
          have B1 := hide hb1
          have M1 := hide (cellOn HM.out hb1 HP.out)
          have P1 : Hid (0 < w1.heap.size) := Nat.lt_of_lt_of_le HP.out hb1.size
          clear ho1 hb1
          go_wp2_with fail
          refine (clone_any A1 len0 c1 z0 w1 O1.out (by omega)).mono ?_
          rintro e w2 ⟨A2, c2, rfl, ho2, hb2⟩
          have O2 := hide ho2
          have B2 := hide hb2
          have M2 := hide (cellOn M1.out hb2 P1.out)
          have TF := hide (tabsFrom HT.out B1.out.size (B1.out.trans (hb2.mono B1.out.size)))
          clear ho2 hb2
          go_wp2_with fail
          refine (zzfmt_plus Lib.goPrintTabs w1.heap.size A2 len0 c2 z0 false true a3 a4 a5 w2 O2.out B2.out.size M2.out P1.out (by omega) (by omega) (by omega) TF.out hw5.1 hw5.2).mono ?_
          have hq := qB_len Lib.goPrintTabs true a5
          have cZ := fun w => zquoteB Lib.goPrintTabs a5 w hw5.1 hw5.2
          generalize qB Lib.goPrintTabs true a5 = q at hq cZ ⊢
          have CZ := hide cZ
          clear cZ
          have hrm : room a3 a4 q.length ≤ 65536 := by
            unfold room
            split <;> omega
          rintro e w3 ⟨A3, c3, rfl, ho3, hb3⟩
          have O3 := hide (SlIn.of_own ho3)
          have B3 := hide (B2.out.trans hb3)
          have O13 := hide ((O1.out.below B3.out (Nat.le_refl _)).mono B3.out.size)
          clear ho3 hb3
          go_wp2_with fail
          refine (CZ.out w3).mono ?_
          rintro e w4 ⟨A4, c4, rfl, hin4, hb4⟩
          have O4 := hide hin4
          have B4 := hide hb4
          have O14 := hide ((O13.out.below hb4 (Nat.le_refl _)).mono hb4.size)
          have O34 := hide ((O3.out.below hb4 (Nat.le_refl _)).mono hb4.size)
          clear hin4 hb4
          go_wp2_with fail
          refine (padWith_at A4 _ c4 q a3 false true a4 48 rfl w4 O4.out (by omega) h11 h12).mono ?_
          rintro e w5 ⟨A5, c5, rfl, hin5, hb5⟩
          have O5 := hide hin5
          have B5 := hide hb5
          have O15 := hide ((O14.out.below hb5 (Nat.le_refl _)).mono hb5.size)
          have O35 := hide ((O34.out.below hb5 (Nat.le_refl _)).mono hb5.size)
          clear hin5 hb5
          go_wp2_with fail
          refine (cat_any A1 A5 len0 c1 _ c5 z0 _ w5 O15.out O5.out (by omega) (by omega)).mono ?_
          rintro e w6 ⟨A6, c6, rfl, ho6, hb6⟩
          have O6 := hide (SlIn.of_own ho6)
          have B6 := hide hb6
          have O36 := hide ((O35.out.below hb6 (Nat.le_refl _)).mono hb6.size)
          clear ho6 hb6
          go_wp2_with fail
          refine (eq_any A3 A6 _ c3 _ c6 _ _ w6 O36.out O6.out (by omega) (by omega)).mono ?_
          rintro e w7 ⟨rfl, qq, rfl⟩
          go_wp2
          go_ret
          have s1 := B1.out.size
          have s3 := Nat.le_trans s1 B3.out.size
          have s4 := Nat.le_trans s3 B4.out.size
          have s5 := Nat.le_trans s4 B5.out.size
          have BF := B1.out.trans ((B3.out.mono s1).trans ((B4.out.mono s3).trans ((B5.out.mono s4).trans (B6.out.mono s5))))
          exact ⟨by simp, BF.os, BF.tape, BF.output, BF.size, BF.block⟩
        case true.false =>
          clear hmz
          go_enter Tryd.func3, Tryd.ntmps3
          go_wp2_with (go_at_call 5; go_in)
          refine (clone_any a0 len0 cap0 z0 w S0.out (by omega)).mono ?_
          rintro e w1 ⟨A1, c1, rfl, ho1, hb1⟩
          have O1 := hide (SlIn.of_own ho1)
          have B1 := hide hb1
          have M1 := hide (cellOn HM.out hb1 HP.out)
          have P1 : Hid (0 < w1.heap.size) := Nat.lt_of_lt_of_le HP.out hb1.size
          clear ho1 hb1
          go_wp2_with fail
          refine (clone_any A1 len0 c1 z0 w1 O1.out (by omega)).mono ?_
          rintro e w2 ⟨A2, c2, rfl, ho2, hb2⟩
          have O2 := hide ho2
          have B2 := hide hb2
          have M2 := hide (cellOn M1.out hb2 P1.out)
          have TF := hide (tabsFrom HT.out B1.out.size (B1.out.trans (hb2.mono B1.out.size)))
          clear ho2 hb2
          go_wp2_with fail
          refine (zzfmt_plus Lib.goPrintTabs w1.heap.size A2 len0 c2 z0 true false a3 a4 a5 w2 O2.out B2.out.size M2.out P1.out (by omega) (by omega) (by omega) TF.out hw5.1 hw5.2).mono ?_
          have hq := qB_len Lib.goPrintTabs true a5
          have cZ := fun w => zquoteB Lib.goPrintTabs a5 w hw5.1 hw5.2
          generalize qB Lib.goPrintTabs true a5 = q at hq cZ ⊢
          have CZ := hide cZ
          clear cZ
          have hrm : room a3 a4 q.length ≤ 65536 := by
            unfold room
            split <;> omega
          rintro e w3 ⟨A3, c3, rfl, ho3, hb3⟩
          have O3 := hide (SlIn.of_own ho3)
          have B3 := hide (B2.out.trans hb3)
          have O13 := hide ((O1.out.below B3.out (Nat.le_refl _)).mono B3.out.size)
          clear ho3 hb3
          go_wp2_with fail
          refine (CZ.out w3).mono ?_
          rintro e w4 ⟨A4, c4, rfl, hin4, hb4⟩
          have O4 := hide hin4
          have B4 := hide hb4
          have O14 := hide ((O13.out.below hb4 (Nat.le_refl _)).mono hb4.size)
          have O34 := hide ((O3.out.below hb4 (Nat.le_refl _)).mono hb4.size)
          clear hin4 hb4
          go_wp2_with fail
          refine (padWith_at A4 _ c4 q a3 true false a4 32 rfl w4 O4.out (by omega) h11 h12).mono ?_
          rintro e w5 ⟨A5, c5, rfl, hin5, hb5⟩
          have O5 := hide hin5
          have B5 := hide hb5
          have O15 := hide ((O14.out.below hb5 (Nat.le_refl _)).mono hb5.size)
          have O35 := hide ((O34.out.below hb5 (Nat.le_refl _)).mono hb5.size)
          clear hin5 hb5
          go_wp2_with fail
          refine (cat_any A1 A5 len0 c1 _ c5 z0 _ w5 O15.out O5.out (by omega) (by omega)).mono ?_
          rintro e w6 ⟨A6, c6, rfl, ho6, hb6⟩
          have O6 := hide (SlIn.of_own ho6)
          have B6 := hide hb6
          have O36 := hide ((O35.out.below hb6 (Nat.le_refl _)).mono hb6.size)
          clear ho6 hb6
          go_wp2_with fail
          refine (eq_any A3 A6 _ c3 _ c6 _ _ w6 O36.out O6.out (by omega) (by omega)).mono ?_
          rintro e w7 ⟨rfl, qq, rfl⟩
          go_wp2
          go_ret
          have s1 := B1.out.size
          have s3 := Nat.le_trans s1 B3.out.size
          have s4 := Nat.le_trans s3 B4.out.size
          have s5 := Nat.le_trans s4 B5.out.size
          have BF := B1.out.trans ((B3.out.mono s1).trans ((B4.out.mono s3).trans ((B5.out.mono s4).trans (B6.out.mono s5))))
          exact ⟨by simp, BF.os, BF.tape, BF.output, BF.size, BF.block⟩
    · by_cases h2 : a4 < 0
      · have d1 : decide (a4 < 0) = true := by simpa using h2
        go_enter Tryd.func3, Tryd.ntmps3
        go_wp2_with (go_at_call 5; go_in)
        all_goals go_ret
        all_goals exact ⟨rfl, Below.refl _ _⟩
      · have d1 : decide (a4 < 0) = false := by simpa using h2
        have d2 : decide (65536 < a4) = true := by simp; omega
        go_enter Tryd.func3, Tryd.ntmps3
        go_wp2_with (go_at_call 5; go_in)
        all_goals go_ret
        all_goals exact ⟨rfl, Below.refl _ _⟩
  · go_enter Tryd.func3, Tryd.ntmps3
    go_wp2_with (go_at_call 5; go_in)
    all_goals go_ret
    all_goals exact ⟨rfl, Below.refl _ _⟩
end Go.Proofs.YtokibffjabomhaaDoor.fnFmtQcPlusExactASCIIQuote
