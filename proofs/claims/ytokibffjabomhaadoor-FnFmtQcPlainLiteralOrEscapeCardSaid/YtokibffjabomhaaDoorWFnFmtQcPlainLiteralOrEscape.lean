/- The law FnFmtQcPlainLiteralOrEscape walked: the call returns true and writes nothing that was there. Its conditions: none beyond the arguments' types. -/
import Derived.Test.YtokibffjabomhaaDoorProg
import Derived.Test.YtokibffjabomhaaDoorBase
import Derived.Test.YtokibffjabomhaaDoorRows
import Derived.Handy
import Derived.Outline
import Derived.WalkLawsBesides
import Derived.WalkSpells
import Derived.Deep.QuietTactic
import Derived.BigQuiet
import Derived.RegionTactic
import Derived.ChangeAlike
import Derived.Test.YtokibffjabomhaaDoorLaid
import Derived.Test.YtokibffjabomhaaDoorFQ4
import Derived.Test.YtokibffjabomhaaDoorEq
import Derived.MakeChecks
import Derived.WalkSmall
namespace Go.Proofs.YtokibffjabomhaaDoor.fnFmtQcPlainLiteralOrEscape
open Go.RowKit Go.Proofs.YtokibffjabomhaaDoor
theorem maxCell {w : World} (hL : laidMetH Tryd.prog Rows.fnFmtQcPlainLiteralOrEscapeRow.laid w) : w.cell? ⟨0, 0, none⟩ = some (.int .i64 2147483647) := by
  rw [MakeChecks.laidMetH_plain _ _ _ (by kernel_rfl)] at hL
  exact laid_int (t := 3) hL (n := "github.com/d5/tengo/v2.MaxStringLen") (by simp [Rows.fnFmtQcPlainLiteralOrEscapeRow, Rows.laid_github_com_d5_tengo_v2_MaxStringLen]) (by kernel_rfl) (by kernel_rfl) Tryd.underlying3
theorem tab {w : World} (hL : laidMetH Tryd.prog Rows.fnFmtQcPlainLiteralOrEscapeRow.laid w) : Lib.PrintTabsAt 2 3 4 5 Lib.goPrintTabs w := by
  rw [MakeChecks.laidMetH_plain _ _ _ (by kernel_rfl)] at hL
  refine tabsP hL ?_ ?_ ?_ ?_
  · simp [Rows.fnFmtQcPlainLiteralOrEscapeRow, Rows.laid_strconv_isPrint16]
  · simp [Rows.fnFmtQcPlainLiteralOrEscapeRow, Rows.laid_strconv_isNotPrint16]
  · simp [Rows.fnFmtQcPlainLiteralOrEscapeRow, Rows.laid_strconv_isPrint32]
  · simp [Rows.fnFmtQcPlainLiteralOrEscapeRow, Rows.laid_strconv_isNotPrint32]
theorem lit_in {w w' : World} {A : Option Addr} {m d : Nat} {xs : List Value} (h : SlIn w w.heap.size A m d xs) (hb : Below w.heap.size w w') : SlIn w' w'.heap.size A m d xs := (h.below hb (Nat.le_refl _)).mono hb.size
theorem lit_list (c : Int) : ∃ e : List UInt8, (.map bt e = Lib.intCells (Lib.encodeRuneZ (zzR c))) ∧ litB c = [39] ++ e ++ [39] ∧ e.length = (Lib.encodeRuneZ (zzR c)).length := by
  refine ⟨toB (Lib.encodeRuneZ (zzR c)), toB_bt (Lib.encodeRuneZ_byte _), ?_, toB_len _⟩
  unfold litB
  rw [show (39 :: (Lib.encodeRuneZ (zzR c) ++ [39]) : List Int) = [39] ++ Lib.encodeRuneZ (zzR c) ++ [39] by simp, toB_app, toB_app]
  rfl
set_option linter.unusedVariables false in
set_option maxHeartbeats 1000000 in
theorem walk (a0 : Option Addr) (len0 cap0 : Nat) (z0 : List UInt8) (a1 : Int) (w : World) (w0 : SlIn w w.heap.size a0 len0 cap0 (z0.map bt)) (w1 : (Lit.int .u64 a1).wf = true) (hL : laidMetH Tryd.prog Rows.fnFmtQcPlainLiteralOrEscapeRow.laid w) :
    Calls Tryd.prog 4 #[.slice a0 len0 cap0, .int .u64 a1] w fun e w' => e = .returned (.bool true) ∧ Below w.heap.size w w' := by
  have t0 := w0.top
  have l0 := w0.le
  unfold maxLen at t0
  have hw1 := bounds_u64 w1
  have HM := hide (maxCell hL)
  have HT := hide (tab hL)
  have HP : Hid (0 < w.heap.size) := World.block_lt_of_cell? w _ HM.out
  have S0 := hide w0
  clear hL w0 w1
  by_cases h : len0 ≤ 1048576
  · go_enter Tryd.func4, Tryd.ntmps4
    go_wp2_with (go_at_call 12; go_in)
    refine (clone_any a0 len0 cap0 z0 w S0.out (by omega)).mono ?_
    rintro e w1 ⟨A1, c1, rfl, ho1, hb1⟩
    have O1 := hide (SlIn.of_own ho1)
    have B1 := hide hb1
    have M1 := hide (cellOn HM.out hb1 HP.out)
    have P1 : Hid (0 < w1.heap.size) := Nat.lt_of_lt_of_le HP.out hb1.size
    clear ho1 hb1
    go_wp2_with fail
    refine (clone_any A1 len0 c1 z0 w1 O1.out (by omega)).mono ?_
    rintro e w2 ⟨A2, c2, rfl, ho2, hb2⟩
    have O2 := hide ho2
    have B2 := hide hb2
    have M2 := hide (cellOn M1.out hb2 P1.out)
    have TF := hide (tabsFrom HT.out B1.out.size (B1.out.trans (hb2.mono B1.out.size)))
    clear ho2 hb2
    go_wp2_with fail
    refine (zzfmt_plain Lib.goPrintTabs w1.heap.size A2 len0 c2 z0 a1 w2 O2.out B2.out.size M2.out P1.out (by omega) TF.out hw1.1 hw1.2).mono ?_
    have hq := qB_len Lib.goPrintTabs false a1
    have hqe := qB_len Lib.goPrintTabs true a1
    have CZ := hide (fun w => zquoteB Lib.goPrintTabs a1 w hw1.1 hw1.2)
    have X1 := hide (plain_bad (c := a1))
    have X2 := hide (plain_low (T := Lib.goPrintTabs) (c := a1))
    have X3 := hide (plain_latin (T := Lib.goPrintTabs) (c := a1))
    have X4 := hide (plain_high (T := Lib.goPrintTabs) (c := a1))
    have CV := hide (fun w => (validRune_any a1 hw1.1 hw1.2 w).mono fun _ _ h => (⟨h.1, h.2.symm⟩ : _ ∧ w = _))
    obtain ⟨ee, he1, he2, he3⟩ := lit_list a1
    have CU := hide (fun w => utf8_any (zzR a1) (zzR_bd hw1.1).1 (zzR_bd hw1.1).2.1 (zzR_bd hw1.1).2.2 w)
    have h4 := Lib.encodeRuneZ_length (zzR a1)
    rw [← he1, ← he3] at CU
    rw [← he3] at h4
    clear he1 he3
    have HL := hide he2
    clear he2
    generalize litB a1 = L at HL X1 X3 X4
    generalize zzR a1 = R at X1 X2 X3 X4 CV CU
    generalize qB Lib.goPrintTabs false a1 = q at hq X1 X2 X3 X4 ⊢
    generalize qB Lib.goPrintTabs true a1 = es at hqe CZ X2 X4 ⊢
    rintro e w3 ⟨A3, c3, rfl, ho3, hb3⟩
    have O3 := hide (SlIn.of_own ho3)
    have B3 := hide (B2.out.trans hb3)
    have O13 := hide (lit_in O1.out B3.out)
    have hsh := own_shape ho3
    have h3le := O3.out.le
    clear ho3 hb3
    obtain ⟨b3, off3, rfl⟩ : ∃ b off, A3 = some ⟨b, off, none⟩ := by
      rcases hsh with rfl | h
      · have := O3.out.isNil rfl
        omega
      · exact h
    clear hsh
    go_wp2_with fail
    have SP := O3.out.pre (k := len0) (by omega)
    rw [← List.map_take, List.take_left' O13.out.size] at SP
    refine (eq_any (some ⟨b3, off3, none⟩) A1 len0 c3 len0 c1 z0 z0 w3 SP O13.out (by omega) (by omega)).mono ?_
    rintro e w3' ⟨rfl, qq, rfl⟩
    have hbb : (z0 == z0) = true := by simp
    rw [hbb]
    clear hbb SP
    have B3' : Hid (Below w1.heap.size w1 (w3.drewN qq)) := ⟨B3.out.os, B3.out.tape, B3.out.output, B3.out.size, B3.out.block⟩
    have O3' := hide (O3.out.drewN qq)
    clear B3 O3 O13
    obtain ⟨W3, hW3⟩ : ∃ W3, W3 = w3.drewN qq := ⟨_, rfl⟩
    rw [show w3.heap.size = (w3.drewN qq).heap.size from rfl] at O3'
    rw [← hW3] at B3' O3' ⊢
    clear hW3
    have SQ : Hid (SlIn W3 W3.heap.size (some ⟨b3, off3 + len0, none⟩) q.length (c3 - len0) (q.map bt)) := by
      have h1 := O3'.out.cut_in (k := len0) (by omega) (by omega)
      have hl : (z0.map bt).length = len0 := S0.out.len
      rw [List.map_append, List.drop_left' hl] at h1
      have e1 : (some (⟨b3, off3, none⟩ : Addr)).map (·.add len0) = some ⟨b3, off3 + len0, none⟩ := by simp [Addr.add_lit]
      have e2 : len0 + q.length - len0 = q.length := by omega
      rw [e1, e2] at h1
      exact h1
    go_wp2_with fail
    refine (CZ.out W3).mono ?_
    rintro e w4 ⟨A4, c4, rfl, hin4, hb4⟩
    have O4 := hide hin4
    have B4 := hide (B3'.out.trans (hb4.mono B3'.out.size))
    have Q4 := hide (lit_in SQ.out hb4)
    clear hin4 hb4
    go_wp2_with (go_at_call 13; refine (CV.out _).mono ?_; rintro e w' ⟨rfl, rfl⟩)
    have hA : Below w4.heap.size w4 (w4.alloc (.cells #[.int .u8 39] 5)) := (Below.refl _ _).alloc (Nat.le_refl _) _
    have hl4 := SlIn.of_own (own_lit w4 5 [.int .u8 39] 1 rfl (by unfold maxLen; omega))
    refine (CU.out _).mono ?_
    rintro e w5 ⟨A5, c5, rfl, ho5, hb5⟩
    have hb45 := hA.trans (hb5.mono hA.size)
    have O5 := hide (lit_in O4.out hb45)
    have Q5 := hide (lit_in Q4.out hb45)
    have B5 := hide (B4.out.trans (hb45.mono B4.out.size))
    have LA := hide (lit_in hl4 hb5)
    have LB := hide (SlIn.of_own ho5)
    clear hA hl4 ho5 hb5 hb45
    go_wp2_with fail
    refine (cat_any (some ⟨w4.heap.size, 0, none⟩) A5 1 1 ee.length c5 [39] ee w5 LA.out LB.out (by omega) (by omega)).mono ?_
    rintro e w6 ⟨A6, c6, rfl, ho6, hb6⟩
    have hA : Below w6.heap.size w6 (w6.alloc (.cells #[.int .u8 39] 5)) := (Below.refl _ _).alloc (Nat.le_refl _) _
    have hb56 := hb6.trans (hA.mono hb6.size)
    have O6 := hide (lit_in O5.out hb56)
    have Q6 := hide (lit_in Q5.out hb56)
    have B6 := hide (B5.out.trans (hb56.mono B5.out.size))
    have LC := hide (lit_in (SlIn.of_own ho6) hA)
    have LD := hide (SlIn.of_own (own_lit w6 5 [.int .u8 39] 1 rfl (by unfold maxLen; omega)))
    clear ho6 hb6 hA hb56
    go_wp2_with fail
    refine (cat_any A6 (some ⟨w6.heap.size, 0, none⟩) _ c6 1 1 ([39] ++ ee) [39] _ LC.out LD.out (by omega) (by omega)).mono ?_
    rintro e w7 ⟨A7, c7, rfl, ho7, hb7⟩
    have O7 := hide (lit_in O6.out hb7)
    have Q7 := hide (lit_in Q6.out hb7)
    have B7 := hide (B6.out.trans (hb7.mono B6.out.size))
    have L7 : Hid (SlIn w7 w7.heap.size A7 (1 + ee.length + 1) c7 (L.map bt)) := by
      show SlIn _ _ _ _ _ _
      rw [HL.out]
      exact SlIn.of_own ho7
    have BF := hide (B1.out.trans (B7.out.mono B1.out.size))
    clear ho7 hb7
    by_cases hne : R = a1
    · have hnb : (R != a1) = false := by simp [hne]
      subst hne
      by_cases k1 : R ≤ 159 ∨ R = 160 ∨ R = 173
      · obtain rfl := X2.out rfl k1
        rcases k1 with k1 | k1 | k1
        all_goals (
          go_wp2_with fail
          refine (eq_any (some ⟨b3, off3 + len0, none⟩) A4 _ (c3 - len0) _ c4 q q w7 Q7.out O7.out (by omega) (by omega)).mono ?_
          rintro e w8 ⟨rfl, q8, rfl⟩
          go_wp2
          go_ret
          exact ⟨by simp, BF.out.os, BF.out.tape, BF.out.output, BF.out.size, BF.out.block⟩)
      · have k2 : ¬ R ≤ 159 := fun h => k1 (.inl h)
        have k3 : (R == 160) = false := by
          have : R ≠ 160 := fun h => k1 (.inr (.inl h))
          simpa using this
        have k4 : (R == 173) = false := by
          have : R ≠ 173 := fun h => k1 (.inr (.inr h))
          simpa using this
        have k6 : decide (R ≤ 159) = false := by simpa using k2
        by_cases k5 : R ≤ 255
        · have k7 : decide (R ≤ 255) = true := by simpa using k5
          obtain rfl := X3.out rfl (by omega) (by simpa using k3) (by simpa using k4) k5
          clear k1
          go_wp2_with fail
          refine (eq_any (some ⟨b3, off3 + len0, none⟩) A7 _ (c3 - len0) _ c7 q q w7 Q7.out L7.out (by omega) (by omega)).mono ?_
          rintro e w8 ⟨rfl, q8, rfl⟩
          go_wp2
          go_ret
          exact ⟨by simp, BF.out.os, BF.out.tape, BF.out.output, BF.out.size, BF.out.block⟩
        · have k7 : decide (R ≤ 255) = false := by simpa using k5
          clear k1
          by_cases hqe2 : q = es
          · obtain rfl := hqe2
            go_wp2_with fail
            refine (eq_any (some ⟨b3, off3 + len0, none⟩) A4 _ (c3 - len0) _ c4 q q w7 Q7.out O7.out (by omega) (by omega)).mono ?_
            rintro e w8 ⟨rfl, q8, rfl⟩
            have hbb : (q == q) = true := by simp
            rw [hbb]
            clear hbb
            go_wp2
            go_ret
            exact ⟨by simp, BF.out.os, BF.out.tape, BF.out.output, BF.out.size, BF.out.block⟩
          · have hql := (X4.out rfl (by omega)).resolve_left hqe2
            have hbb : (q == es) = false := by simpa using hqe2
            obtain rfl := hql
            go_wp2_with fail
            refine (eq_any (some ⟨b3, off3 + len0, none⟩) A4 _ (c3 - len0) _ c4 q es w7 Q7.out O7.out (by omega) (by omega)).mono ?_
            rintro e w8 ⟨rfl, q8, rfl⟩
            rw [hbb]
            clear hbb hqe2
            have Q8 := hide (Q7.out.drewN q8)
            have L8 := hide (L7.out.drewN q8)
            go_wp2_with fail
            refine (eq_any (some ⟨b3, off3 + len0, none⟩) A7 _ (c3 - len0) _ c7 q q _ Q8.out L8.out (by omega) (by omega)).mono ?_
            rintro e w9 ⟨rfl, q9, rfl⟩
            go_wp2
            go_ret
            exact ⟨by simp, BF.out.os, BF.out.tape, BF.out.output, BF.out.size, BF.out.block⟩
    · have hnb : (R != a1) = true := by simp [hne]
      obtain rfl := X1.out hne
      go_wp2_with fail
      refine (eq_any (some ⟨b3, off3 + len0, none⟩) A7 _ (c3 - len0) _ c7 q q w7 Q7.out L7.out (by omega) (by omega)).mono ?_
      rintro e w8 ⟨rfl, q8, rfl⟩
      go_wp2
      go_ret
      exact ⟨by simp, BF.out.os, BF.out.tape, BF.out.output, BF.out.size, BF.out.block⟩
  · go_enter Tryd.func4, Tryd.ntmps4
    go_wp2_with (go_at_call 12; go_in)
    all_goals go_ret
    all_goals exact ⟨rfl, Below.refl _ _⟩
end Go.Proofs.YtokibffjabomhaaDoor.fnFmtQcPlainLiteralOrEscape
