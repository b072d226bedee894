/- The law FnFmtQASCIIMatchesQuoteModel walked: the call returns true and writes nothing that was there. Its conditions: none beyond the arguments' types. -/
import Derived.Test.YtibndpnoeoajaaaDoorProg
import Derived.Test.YtibndpnoeoajaaaDoorBase
import Derived.Test.YtibndpnoeoajaaaDoorRows
import Derived.Handy
import Derived.Outline
import Derived.WalkLawsBesides
import Derived.WalkSpells
import Derived.Deep.QuietTactic
import Derived.BigQuiet
import Derived.RegionTactic
import Derived.ChangeAlike
import Derived.Test.YtibndpnoeoajaaaDoorLaid
import Derived.Test.YtibndpnoeoajaaaDoorQA9
import Derived.MakeChecks
import Derived.WalkSmall
namespace Go.Proofs.YtibndpnoeoajaaaDoor.fnFmtQASCIIMatchesQuoteModel
open Go.RowKit Go.Proofs.YtibndpnoeoajaaaDoor
theorem maxCell {w : World} (hL : laidMetH Tryd.prog Rows.fnFmtQASCIIMatchesQuoteModelRow.laid w) : w.cell? ⟨0, 0, none⟩ = some (.int .i64 2147483647) := by
  rw [MakeChecks.laidMetH_plain _ _ _ (by kernel_rfl)] at hL
  exact laid_int (t := 3) hL (n := "github.com/d5/tengo/v2.MaxStringLen") (by simp [Rows.fnFmtQASCIIMatchesQuoteModelRow, Rows.laid_github_com_d5_tengo_v2_MaxStringLen]) (by kernel_rfl) (by kernel_rfl) Tryd.underlying3
set_option linter.unusedVariables false in
set_option maxRecDepth 100000 in
set_option maxHeartbeats 4000000 in
theorem walk (a0 : ByteArray) (a1 : Int) (a2 : Int) (a3 : Bool) (a4 : Bool) (a5 : Bool) (a6 : Bool) (a7 : Bool) (a8 : Bool) (w : World) (w0 : a0.size ≤ maxLen) (w1 : (Lit.int .i64 a1).wf = true) (w2 : (Lit.int .i64 a2).wf = true) (hL : laidMetH Tryd.prog Rows.fnFmtQASCIIMatchesQuoteModelRow.laid w) :
    Calls Tryd.prog 3 #[.string a0, .int .i64 a1, .int .i64 a2, .bool a3, .bool a4, .bool a5, .bool a6, .bool a7, .bool a8] w fun e w' => e = .returned (.bool true) ∧ Below w.heap.size w w' := by
  have hw1 := bounds_i64 w1
  have hw2 := bounds_i64 w2
  have HM := hide (maxCell hL)
  have HP : Hid (0 < w.heap.size) := World.block_lt_of_cell? w _ HM.out
  obtain ⟨i0, hi, hz0, hz1, hz2⟩ := info_parts info_u8
  unfold maxLen at w0
  clear hL w1 w2
  by_cases h : a0.size ≤ 1048576
  · have g0 : decide (1048576 < (a0.size : Int)) = false := by simp; omega
    by_cases h1 : 0 ≤ a1 ∧ a1 ≤ 65536
    · obtain ⟨hw10, hw11⟩ := h1
      have d1 : decide (a1 < 0) = false := by simp; omega
      have d2 : decide (65536 < a1) = false := by simp; omega
      by_cases h2 : 0 ≤ a2
      · obtain ⟨p, rfl⟩ := Int.eq_ofNat_of_zero_le h2
        go_enter Tryd.func3, Tryd.ntmps3
        go_wp2_with (go_at_call 4; go_in)
        clear g0 d1 d2
        go_loop [19] (fun ix => ∃ k : Nat, k ≤ a0.size ∧ ix = .int .i64 (k : Int) ∧ Hid (Asc (a0.data.toList.take k))) (fun ix => a0.size - (intOf ix).toNat)
        case atStart => exact ⟨0, Nat.zero_le _, rfl, fun x hx => by simp at hx⟩
        case round =>
          obtain ⟨k, hk, rfl, HK⟩ := hrel
          by_cases hlt : k < a0.size
          · obtain ⟨x, hx⟩ : ∃ x, (a0[k]'hlt).toNat = x := ⟨_, rfl⟩
            by_cases hx128 : x < 128
            · have HS : Hid (Asc (a0.data.toList.take (k + 1))) := by
                show Asc _
                rw [List.take_add_one, str_at a0 k hlt]
                intro y hy
                rcases List.mem_append.1 hy with hy | hy
                · exact HK.out y hy
                · simp at hy; subst hy; rw [hx]; exact hx128
              have g1 : decide (128 ≤ (x : Int)) = false := by simp; omega
              clear hx128
              go_wp2
              go_round
              case rel => exact ⟨k + 1, by omega, by go_num, HS⟩
              case measure => simp [intOf]; omega
            · have g1 : decide (128 ≤ (x : Int)) = true := by simp; omega
              clear hx128
              go_wp2
              go_ret
              exact ⟨rfl, Below.refl _ _⟩
          · obtain rfl : k = a0.size := by omega
            have HA : Hid (Asc a0.data.toList) := by
              show Asc _
              have := HK.out
              rwa [List.take_of_length_le (by rw [bsz]; exact Nat.le_refl _)] at this
            clear HK
            have HF := zzfmtQ_any a3 a4 a5 a6 a7 a8 a1 (p : Int) a0 h HA.out w HM.out HP.out hw10 hw11 (by omega) (by omega)
            cases a4
            · rw [show cutTo false (p : Int) a0 = a0 by simp [cutTo]] at HF
              have HT := HA.out
              cases a7
              · skip
                rw [quoted_false] at HF
                obtain ⟨N, hN, hO⟩ := own_quote a0 (by omega) (HT) a3 a5 a8 a1 hw10 hw11
                generalize (⟨(fieldB a5 a8 (room a3 a1 (toB (quoteL a0.data.toList)).length) (toB (quoteL a0.data.toList))).toArray⟩ : ByteArray) = X at HF hO
                have HO := hide hO
                have HFH := hide HF
                clear hO HF HT HA
                go_big_wp2_with fail
                refine (HFH.out).mono ?_
                rintro e w1 ⟨rfl, hb1⟩
                have B1 := hide hb1
                clear hb1
                go_big_wp2_with (first | (go_at_call 7; refine (HO.out _).mono ?_; rintro e w2 ⟨b, off, c, rfl, hp, hb2⟩; have HP3 := hide hp; have B2 := hide hb2; clear hp hb2) | (go_at_call 8; refine (HP3.out).mono ?_; rintro e w3 ⟨rfl, hb3⟩))
                go_ret
                exact ⟨by simp, B1.out.trans ((B2.out.mono B1.out.size).trans (hb3.mono (Nat.le_trans B1.out.size B2.out.size)))⟩
              · cases hcb : canB a0.data.toList
                · skip
                  have CB : Hid (∀ w, Calls Tryd.prog 6 #[.string a0] w fun e w' => e = .returned (.bool false) ∧ w = w') := fun w => by rw [← hcb]; exact zzCanB_any a0 (by omega) w
                  rw [quoted_no _ hcb] at HF
                  obtain ⟨N, hN, hO⟩ := own_quote a0 (by omega) (HT) a3 a5 a8 a1 hw10 hw11
                  generalize (⟨(fieldB a5 a8 (room a3 a1 (toB (quoteL a0.data.toList)).length) (toB (quoteL a0.data.toList))).toArray⟩ : ByteArray) = X at HF hO
                  have HO := hide hO
                  have HFH := hide HF
                  clear hO HF HT HA hcb
                  go_big_wp2_with fail
                  refine (HFH.out).mono ?_
                  rintro e w1 ⟨rfl, hb1⟩
                  have B1 := hide hb1
                  clear hb1
                  go_big_wp2_with (first | (go_at_call 6; refine (CB.out _).mono ?_; rintro e w' ⟨rfl, rfl⟩) | (go_at_call 7; refine (HO.out _).mono ?_; rintro e w2 ⟨b, off, c, rfl, hp, hb2⟩; have HP3 := hide hp; have B2 := hide hb2; clear hp hb2) | (go_at_call 8; refine (HP3.out).mono ?_; rintro e w3 ⟨rfl, hb3⟩))
                  go_ret
                  exact ⟨by simp, B1.out.trans ((B2.out.mono B1.out.size).trans (hb3.mono (Nat.le_trans B1.out.size B2.out.size)))⟩
                · skip
                  have CB : Hid (∀ w, Calls Tryd.prog 6 #[.string a0] w fun e w' => e = .returned (.bool true) ∧ w = w') := fun w => by rw [← hcb]; exact zzCanB_any a0 (by omega) w
                  rw [quoted_yes hcb] at HF
                  obtain ⟨N, hN⟩ : ∃ N, N = a0.size + 2 := ⟨_, rfl⟩
                  have HN := hide hN
                  clear hN
                  have HP2 := fun (B n : Nat) (v : Value) (xs : List Value) (W w : World) (h : Lib.OwnBuf B 5 v n xs W w) (hx : xs = (96 :: (a0.data.toList ++ [96])).map bt) (hn : n = N) => own_tick a0 (by omega) a3 a5 a8 a1 hw10 hw11 h hx hn HN.out
                  generalize (⟨(fieldB a5 a8 (room a3 a1 (96 :: (a0.data.toList ++ [96])).length) (96 :: (a0.data.toList ++ [96]))).toArray⟩ : ByteArray) = X at HF HP2
                  have HPP := hide HP2
                  have HFH := hide HF
                  clear HP2 HF HT HA hcb
                  go_big_wp2_with fail
                  refine (HFH.out).mono ?_
                  rintro e w1 ⟨rfl, hb1⟩
                  have B1 := hide hb1
                  clear hb1
                  go_big_wp2_with (first | (go_at_call 6; refine (CB.out _).mono ?_; rintro e w' ⟨rfl, rfl⟩) | (at_make; refine wpList_make_own _ rfl _ _ 24 rfl w1.heap.size 5 i0 (.int .u8 0) 1 Tryd.underlying24 hi hz0 hz1 _ _ _ (a0.size + 2) rfl rfl (by simp) (by rw [hz2]; omega) (by unfold maxLen; omega) (Nat.le_refl _) ?_; intro w2 hown1 hgrow1; have hb : Lib.OwnBuf w1.heap.size 5 _ 0 [] w1 w2 := ⟨World.ownsRowF_of hown1, (Below.refl _ _).grown hgrow1 (Nat.le_refl _) (by intro k hk; cases hk), hgrow1.size⟩; clear hown1 hgrow1) | (at_builtin; first | (revert hbT; intro hbT; (refine wpList_append_litO rfl _ _ 24 rfl w1.heap.size 5 i0 Tryd.underlying24 hi hz0 hz1 hz2 _ _ _ rfl w1 _ _ 1 rfl (by intro u hu; simp at hu; subst hu; rfl) (by assumption) (by first | rfl | (refine Eq.trans (show _ = Value.slice (some ⟨_, 0, none⟩) 1 1 from rfl) ?_; simp)) (by first | omega | (simp; omega)) ?_; intro v3 w3 hb); obtain ⟨b, off, c, rfl, hp⟩ := HPP.out _ _ _ _ _ _ hb (by simp [Lib.strCells]) (by have := HN.out; first | omega | (simp at this ⊢; omega)); have HP3 := hide hp; have B2 := hide hb.2.1; clear hp hb) | (refine wpList_append_litO rfl _ _ 24 rfl w1.heap.size 5 i0 Tryd.underlying24 hi hz0 hz1 hz2 _ _ _ rfl w1 _ _ 1 rfl (by intro u hu; simp at hu; subst hu; rfl) (by assumption) (by first | rfl | (refine Eq.trans (show _ = Value.slice (some ⟨_, 0, none⟩) 1 1 from rfl) ?_; simp)) (by first | omega | (simp; omega)) ?_; intro v3 w3 hb)) | (at_builtin; (refine Lib.wpList_append_text rfl _ _ 24 9 rfl w1.heap.size 5 i0 Tryd.underlying24 Tryd.underlying9 hi hz0 hz1 hz2 _ _ _ rfl w1 (by assumption) a0 rfl (by first | omega | (simp; omega)) ?_; intro v3 w3 hbT)) | (go_at_call 8; refine (HP3.out).mono ?_; rintro e w4 ⟨rfl, hb3⟩))
                  go_ret
                  exact ⟨by simp, B1.out.trans ((B2.out.mono B1.out.size).trans (hb3.mono (Nat.le_trans B1.out.size B2.out.size)))⟩
            · by_cases hcut : p < a0.size
              · rw [show cutTo true (p : Int) a0 = a0.extract 0 p by unfold cutTo; rw [if_pos ⟨rfl, by omega⟩]; simp] at HF
                have HT : Asc (a0.extract 0 p).data.toList := by
                  have := cutTo_asc true (p : Int) a0 HA.out
                  rwa [show cutTo true (p : Int) a0 = a0.extract 0 p by unfold cutTo; rw [if_pos ⟨rfl, by omega⟩]; simp] at this
                have hts : (a0.extract 0 p).size = p := by simp [ByteArray.size_extract]; omega
                have g2 : decide ((p : Int) < (a0.size : Int)) = true := by simp; omega
                cases a7
                · skip
                  rw [quoted_false] at HF
                  obtain ⟨N, hN, hO⟩ := own_quote (a0.extract 0 p) (by omega) (HT) a3 a5 a8 a1 hw10 hw11
                  generalize (⟨(fieldB a5 a8 (room a3 a1 (toB (quoteL (a0.extract 0 p).data.toList)).length) (toB (quoteL (a0.extract 0 p).data.toList))).toArray⟩ : ByteArray) = X at HF hO
                  have HO := hide hO
                  have HFH := hide HF
                  clear hO HF HT HA
                  go_big_wp2_with fail
                  refine (HFH.out).mono ?_
                  rintro e w1 ⟨rfl, hb1⟩
                  have B1 := hide hb1
                  clear hb1
                  go_big_wp2_with (first | (go_at_call 7; refine (HO.out _).mono ?_; rintro e w2 ⟨b, off, c, rfl, hp, hb2⟩; have HP3 := hide hp; have B2 := hide hb2; clear hp hb2) | (go_at_call 8; refine (HP3.out).mono ?_; rintro e w3 ⟨rfl, hb3⟩))
                  go_ret
                  exact ⟨by simp, B1.out.trans ((B2.out.mono B1.out.size).trans (hb3.mono (Nat.le_trans B1.out.size B2.out.size)))⟩
                · cases hcb : canB (a0.extract 0 p).data.toList
                  · skip
                    have CB : Hid (∀ w, Calls Tryd.prog 6 #[.string (a0.extract 0 p)] w fun e w' => e = .returned (.bool false) ∧ w = w') := fun w => by rw [← hcb]; exact zzCanB_any (a0.extract 0 p) (by omega) w
                    rw [quoted_no _ hcb] at HF
                    obtain ⟨N, hN, hO⟩ := own_quote (a0.extract 0 p) (by omega) (HT) a3 a5 a8 a1 hw10 hw11
                    generalize (⟨(fieldB a5 a8 (room a3 a1 (toB (quoteL (a0.extract 0 p).data.toList)).length) (toB (quoteL (a0.extract 0 p).data.toList))).toArray⟩ : ByteArray) = X at HF hO
                    have HO := hide hO
                    have HFH := hide HF
                    clear hO HF HT HA hcb
                    go_big_wp2_with fail
                    refine (HFH.out).mono ?_
                    rintro e w1 ⟨rfl, hb1⟩
                    have B1 := hide hb1
                    clear hb1
                    go_big_wp2_with (first | (go_at_call 6; refine (CB.out _).mono ?_; rintro e w' ⟨rfl, rfl⟩) | (go_at_call 7; refine (HO.out _).mono ?_; rintro e w2 ⟨b, off, c, rfl, hp, hb2⟩; have HP3 := hide hp; have B2 := hide hb2; clear hp hb2) | (go_at_call 8; refine (HP3.out).mono ?_; rintro e w3 ⟨rfl, hb3⟩))
                    go_ret
                    exact ⟨by simp, B1.out.trans ((B2.out.mono B1.out.size).trans (hb3.mono (Nat.le_trans B1.out.size B2.out.size)))⟩
                  · skip
                    have CB : Hid (∀ w, Calls Tryd.prog 6 #[.string (a0.extract 0 p)] w fun e w' => e = .returned (.bool true) ∧ w = w') := fun w => by rw [← hcb]; exact zzCanB_any (a0.extract 0 p) (by omega) w
                    rw [quoted_yes hcb] at HF
                    obtain ⟨N, hN⟩ : ∃ N, N = (a0.extract 0 p).size + 2 := ⟨_, rfl⟩
                    have HN := hide hN
                    clear hN
                    have HP2 := fun (B n : Nat) (v : Value) (xs : List Value) (W w : World) (h : Lib.OwnBuf B 5 v n xs W w) (hx : xs = (96 :: ((a0.extract 0 p).data.toList ++ [96])).map bt) (hn : n = N) => own_tick (a0.extract 0 p) (by omega) a3 a5 a8 a1 hw10 hw11 h hx hn HN.out
                    generalize (⟨(fieldB a5 a8 (room a3 a1 (96 :: ((a0.extract 0 p).data.toList ++ [96])).length) (96 :: ((a0.extract 0 p).data.toList ++ [96]))).toArray⟩ : ByteArray) = X at HF HP2
                    have HPP := hide HP2
                    have HFH := hide HF
                    clear HP2 HF HT HA hcb
                    go_big_wp2_with fail
                    refine (HFH.out).mono ?_
                    rintro e w1 ⟨rfl, hb1⟩
                    have B1 := hide hb1
                    clear hb1
                    go_big_wp2_with (first | (go_at_call 6; refine (CB.out _).mono ?_; rintro e w' ⟨rfl, rfl⟩) | (at_make; refine wpList_make_own _ rfl _ _ 24 rfl w1.heap.size 5 i0 (.int .u8 0) 1 Tryd.underlying24 hi hz0 hz1 _ _ _ (p + 2) rfl rfl (by simp) (by rw [hz2]; omega) (by unfold maxLen; omega) (Nat.le_refl _) ?_; intro w2 hown1 hgrow1; have hb : Lib.OwnBuf w1.heap.size 5 _ 0 [] w1 w2 := ⟨World.ownsRowF_of hown1, (Below.refl _ _).grown hgrow1 (Nat.le_refl _) (by intro k hk; cases hk), hgrow1.size⟩; clear hown1 hgrow1) | (at_builtin; first | (revert hbT; intro hbT; (refine wpList_append_litO rfl _ _ 24 rfl w1.heap.size 5 i0 Tryd.underlying24 hi hz0 hz1 hz2 _ _ _ rfl w1 _ _ 1 rfl (by intro u hu; simp at hu; subst hu; rfl) (by assumption) (by first | rfl | (refine Eq.trans (show _ = Value.slice (some ⟨_, 0, none⟩) 1 1 from rfl) ?_; simp)) (by first | omega | (simp; omega)) ?_; intro v3 w3 hb); obtain ⟨b, off, c, rfl, hp⟩ := HPP.out _ _ _ _ _ _ hb (by simp [Lib.strCells]) (by have := HN.out; first | omega | (simp at this ⊢; omega)); have HP3 := hide hp; have B2 := hide hb.2.1; clear hp hb) | (refine wpList_append_litO rfl _ _ 24 rfl w1.heap.size 5 i0 Tryd.underlying24 hi hz0 hz1 hz2 _ _ _ rfl w1 _ _ 1 rfl (by intro u hu; simp at hu; subst hu; rfl) (by assumption) (by first | rfl | (refine Eq.trans (show _ = Value.slice (some ⟨_, 0, none⟩) 1 1 from rfl) ?_; simp)) (by first | omega | (simp; omega)) ?_; intro v3 w3 hb)) | (at_builtin; (refine Lib.wpList_append_text rfl _ _ 24 9 rfl w1.heap.size 5 i0 Tryd.underlying24 Tryd.underlying9 hi hz0 hz1 hz2 _ _ _ rfl w1 (by assumption) (a0.extract 0 p) rfl (by first | omega | (simp; omega)) ?_; intro v3 w3 hbT)) | (go_at_call 8; refine (HP3.out).mono ?_; rintro e w4 ⟨rfl, hb3⟩))
                    go_ret
                    exact ⟨by simp, B1.out.trans ((B2.out.mono B1.out.size).trans (hb3.mono (Nat.le_trans B1.out.size B2.out.size)))⟩
              · rw [show cutTo true (p : Int) a0 = a0 by unfold cutTo; rw [if_neg (by rintro ⟨_, h⟩; omega)]] at HF
                have HT := HA.out
                have g2 : decide ((p : Int) < (a0.size : Int)) = false := by simp; omega
                cases a7
                · skip
                  rw [quoted_false] at HF
                  obtain ⟨N, hN, hO⟩ := own_quote a0 (by omega) (HT) a3 a5 a8 a1 hw10 hw11
                  generalize (⟨(fieldB a5 a8 (room a3 a1 (toB (quoteL a0.data.toList)).length) (toB (quoteL a0.data.toList))).toArray⟩ : ByteArray) = X at HF hO
                  have HO := hide hO
                  have HFH := hide HF
                  clear hO HF HT HA
                  go_big_wp2_with fail
                  refine (HFH.out).mono ?_
                  rintro e w1 ⟨rfl, hb1⟩
                  have B1 := hide hb1
                  clear hb1
                  go_big_wp2_with (first | (go_at_call 7; refine (HO.out _).mono ?_; rintro e w2 ⟨b, off, c, rfl, hp, hb2⟩; have HP3 := hide hp; have B2 := hide hb2; clear hp hb2) | (go_at_call 8; refine (HP3.out).mono ?_; rintro e w3 ⟨rfl, hb3⟩))
                  go_ret
                  exact ⟨by simp, B1.out.trans ((B2.out.mono B1.out.size).trans (hb3.mono (Nat.le_trans B1.out.size B2.out.size)))⟩
                · cases hcb : canB a0.data.toList
                  · skip
                    have CB : Hid (∀ w, Calls Tryd.prog 6 #[.string a0] w fun e w' => e = .returned (.bool false) ∧ w = w') := fun w => by rw [← hcb]; exact zzCanB_any a0 (by omega) w
                    rw [quoted_no _ hcb] at HF
                    obtain ⟨N, hN, hO⟩ := own_quote a0 (by omega) (HT) a3 a5 a8 a1 hw10 hw11
                    generalize (⟨(fieldB a5 a8 (room a3 a1 (toB (quoteL a0.data.toList)).length) (toB (quoteL a0.data.toList))).toArray⟩ : ByteArray) = X at HF hO
                    have HO := hide hO
                    have HFH := hide HF
                    clear hO HF HT HA hcb
                    go_big_wp2_with fail
                    refine (HFH.out).mono ?_
                    rintro e w1 ⟨rfl, hb1⟩
                    have B1 := hide hb1
                    clear hb1
                    go_big_wp2_with (first | (go_at_call 6; refine (CB.out _).mono ?_; rintro e w' ⟨rfl, rfl⟩) | (go_at_call 7; refine (HO.out _).mono ?_; rintro e w2 ⟨b, off, c, rfl, hp, hb2⟩; have HP3 := hide hp; have B2 := hide hb2; clear hp hb2) | (go_at_call 8; refine (HP3.out).mono ?_; rintro e w3 ⟨rfl, hb3⟩))
                    go_ret
                    exact ⟨by simp, B1.out.trans ((B2.out.mono B1.out.size).trans (hb3.mono (Nat.le_trans B1.out.size B2.out.size)))⟩
                  · skip
                    have CB : Hid (∀ w, Calls Tryd.prog 6 #[.string a0] w fun e w' => e = .returned (.bool true) ∧ w = w') := fun w => by rw [← hcb]; exact zzCanB_any a0 (by omega) w
                    rw [quoted_yes hcb] at HF
                    obtain ⟨N, hN⟩ : ∃ N, N = a0.size + 2 := ⟨_, rfl⟩
                    have HN := hide hN
                    clear hN
                    have HP2 := fun (B n : Nat) (v : Value) (xs : List Value) (W w : World) (h : Lib.OwnBuf B 5 v n xs W w) (hx : xs = (96 :: (a0.data.toList ++ [96])).map bt) (hn : n = N) => own_tick a0 (by omega) a3 a5 a8 a1 hw10 hw11 h hx hn HN.out
                    generalize (⟨(fieldB a5 a8 (room a3 a1 (96 :: (a0.data.toList ++ [96])).length) (96 :: (a0.data.toList ++ [96]))).toArray⟩ : ByteArray) = X at HF HP2
                    have HPP := hide HP2
                    have HFH := hide HF
                    clear HP2 HF HT HA hcb
                    go_big_wp2_with fail
                    refine (HFH.out).mono ?_
                    rintro e w1 ⟨rfl, hb1⟩
                    have B1 := hide hb1
                    clear hb1
                    go_big_wp2_with (first | (go_at_call 6; refine (CB.out _).mono ?_; rintro e w' ⟨rfl, rfl⟩) | (at_make; refine wpList_make_own _ rfl _ _ 24 rfl w1.heap.size 5 i0 (.int .u8 0) 1 Tryd.underlying24 hi hz0 hz1 _ _ _ (a0.size + 2) rfl rfl (by simp) (by rw [hz2]; omega) (by unfold maxLen; omega) (Nat.le_refl _) ?_; intro w2 hown1 hgrow1; have hb : Lib.OwnBuf w1.heap.size 5 _ 0 [] w1 w2 := ⟨World.ownsRowF_of hown1, (Below.refl _ _).grown hgrow1 (Nat.le_refl _) (by intro k hk; cases hk), hgrow1.size⟩; clear hown1 hgrow1) | (at_builtin; first | (revert hbT; intro hbT; (refine wpList_append_litO rfl _ _ 24 rfl w1.heap.size 5 i0 Tryd.underlying24 hi hz0 hz1 hz2 _ _ _ rfl w1 _ _ 1 rfl (by intro u hu; simp at hu; subst hu; rfl) (by assumption) (by first | rfl | (refine Eq.trans (show _ = Value.slice (some ⟨_, 0, none⟩) 1 1 from rfl) ?_; simp)) (by first | omega | (simp; omega)) ?_; intro v3 w3 hb); obtain ⟨b, off, c, rfl, hp⟩ := HPP.out _ _ _ _ _ _ hb (by simp [Lib.strCells]) (by have := HN.out; first | omega | (simp at this ⊢; omega)); have HP3 := hide hp; have B2 := hide hb.2.1; clear hp hb) | (refine wpList_append_litO rfl _ _ 24 rfl w1.heap.size 5 i0 Tryd.underlying24 hi hz0 hz1 hz2 _ _ _ rfl w1 _ _ 1 rfl (by intro u hu; simp at hu; subst hu; rfl) (by assumption) (by first | rfl | (refine Eq.trans (show _ = Value.slice (some ⟨_, 0, none⟩) 1 1 from rfl) ?_; simp)) (by first | omega | (simp; omega)) ?_; intro v3 w3 hb)) | (at_builtin; (refine Lib.wpList_append_text rfl _ _ 24 9 rfl w1.heap.size 5 i0 Tryd.underlying24 Tryd.underlying9 hi hz0 hz1 hz2 _ _ _ rfl w1 (by assumption) a0 rfl (by first | omega | (simp; omega)) ?_; intro v3 w3 hbT)) | (go_at_call 8; refine (HP3.out).mono ?_; rintro e w4 ⟨rfl, hb3⟩))
                    go_ret
                    exact ⟨by simp, B1.out.trans ((B2.out.mono B1.out.size).trans (hb3.mono (Nat.le_trans B1.out.size B2.out.size)))⟩
      · have d3 : decide (a2 < 0) = true := by simp; omega
        go_enter Tryd.func3, Tryd.ntmps3
        go_wp2_with (go_at_call 4; go_in)
        go_ret
        exact ⟨rfl, Below.refl _ _⟩
    · by_cases h11 : a1 < 0
      · have d1 : decide (a1 < 0) = true := by simp; omega
        go_enter Tryd.func3, Tryd.ntmps3
        go_wp2_with (go_at_call 4; go_in)
        go_ret
        exact ⟨rfl, Below.refl _ _⟩
      · have d1 : decide (a1 < 0) = false := by simp; omega
        have d2 : decide (65536 < a1) = true := by simp; omega
        go_enter Tryd.func3, Tryd.ntmps3
        go_wp2_with (go_at_call 4; go_in)
        go_ret
        exact ⟨rfl, Below.refl _ _⟩
  · have g0 : decide (1048576 < (a0.size : Int)) = true := by simp; omega
    go_enter Tryd.func3, Tryd.ntmps3
    go_wp2_with (go_at_call 4; go_in)
    go_ret
    exact ⟨rfl, Below.refl _ _⟩
end Go.Proofs.YtibndpnoeoajaaaDoor.fnFmtQASCIIMatchesQuoteModel
