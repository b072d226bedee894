/- The law FnFmtbufWriteSplitInvariant walked: the call returns true and writes nothing that was there. Its conditions: none beyond the arguments' types. -/
import Derived.Test.YtegidggehpbkmaaDoorProg
import Derived.Test.YtegidggehpbkmaaDoorBase
import Derived.Test.YtegidggehpbkmaaDoorRows
import Derived.Handy
import Derived.Outline
import Derived.WalkLawsBesides
import Derived.WalkSpells
import Derived.Deep.QuietTactic
import Derived.BigQuiet
import Derived.RegionTactic
import Derived.ChangeAlike
import Derived.Test.YtegidggehpbkmaaDoorLaid
import Derived.Test.YtegidggehpbkmaaDoorZZWrite
import Derived.Test.YtegidggehpbkmaaDoorCat
import Derived.Test.YtegidggehpbkmaaDoorCatStr
import Derived.Test.YtegidggehpbkmaaDoorEq
import Derived.MakeChecks
import Derived.Deep.RegionHeld3
import Derived.Deep.RegionWith
namespace Go.Proofs.YtegidggehpbkmaaDoor.fnFmtbufWriteSplitInvariant
open Go.RowKit Go.Proofs.YtegidggehpbkmaaDoor
theorem maxCell {w : World} (hL : laidMetH Tryd.prog Rows.fnFmtbufWriteSplitInvariantRow.laid w) : w.cell? ⟨0, 0, none⟩ = some (.int .i64 2147483647) := by
  rw [MakeChecks.laidMetH_plain _ _ _ (by kernel_rfl)] at hL
  exact laid_int (t := 3) hL (n := "github.com/d5/tengo/v2.MaxStringLen") (by simp [Rows.fnFmtbufWriteSplitInvariantRow, Rows.laid_github_com_d5_tengo_v2_MaxStringLen]) (by kernel_rfl) (by kernel_rfl) Tryd.underlying3
theorem cellOn {w w' : World} {B : Nat} {v : Value} (h : w.cell? ⟨0, 0, none⟩ = some v) (hb : Below B w w') (hB : 0 < B) : w'.cell? ⟨0, 0, none⟩ = some v := (hb.cell (p := ⟨0, 0, none⟩) hB).trans h
set_option linter.unusedVariables false in
set_option maxHeartbeats 1000000 in
theorem walk (a0 : Option Addr) (len0 cap0 : Nat) (z0 : List UInt8) (a1 : Option Addr) (len1 cap1 : Nat) (z1 : List UInt8) (a2 : Int) (w : World) (w0 : SlIn w w.heap.size a0 len0 cap0 (z0.map bt)) (w1 : SlIn w w.heap.size a1 len1 cap1 (z1.map bt)) (w2 : (Lit.int .i64 a2).wf = true) (hL : laidMetH Tryd.prog Rows.fnFmtbufWriteSplitInvariantRow.laid w) :
    Calls Tryd.prog 6 #[.slice a0 len0 cap0, .slice a1 len1 cap1, .int .i64 a2] w fun e w' => e = .returned (.bool true) ∧ Below w.heap.size w w' := by
  have t0 := w0.top
  have l0 := w0.le
  have t1 := w1.top
  have l1 := w1.le
  unfold maxLen at t0 t1
  obtain ⟨bk0, bk1⟩ := bounds_i64 w2
  have HM := hide (maxCell hL)
  have S0 := hide w0
  have S1 := hide w1
  have HP : Hid (0 < w.heap.size) := World.block_lt_of_cell? w _ HM.out
  clear hL w0 w1
  by_cases h : len0 + len1 ≤ 1048576
  · by_cases h0 : len0 ≤ 524288
    · by_cases h1 : len1 ≤ 524288
      · have d0 : decide ((524288 : Int) < (len0 : Int)) = false := by simp; omega
        have d1 : decide ((524288 : Int) < (len1 : Int)) = false := by simp; omega
        by_cases hk0 : 0 ≤ a2
        · obtain ⟨k, rfl⟩ := Int.eq_ofNat_of_zero_le hk0
          have e0 : decide ((k : Int) < 0) = false := by simp
          by_cases hk1 : k ≤ len1
          · have e1 : decide ((len1 : Int) < (k : Int)) = false := by simp; omega
            have e2 : (k : Int) ≤ (len1 : Int) := by omega
            go_enter Tryd.func6, Tryd.ntmps6
            go_wp2_with (go_at_call 16; go_in)
            refine (clone_any a0 len0 cap0 z0 w S0.out (by omega)).mono ?_
            rintro e w1 ⟨A1, c1, rfl, ho1, hb1⟩
            have O1 := hide (SlIn.of_own ho1)
            have B1 := hide hb1
            have M1 := hide (cellOn HM.out hb1 HP.out)
            have P1 : Hid (0 < w1.heap.size) := Nat.lt_of_lt_of_le HP.out hb1.size
            clear ho1 hb1
            go_wp2_with fail
            refine (clone_any a1 len1 cap1 z1 w1 ((S1.out.below B1.out (Nat.le_refl _)).mono B1.out.size) (by omega)).mono ?_
            rintro e w2 ⟨A2, c2, rfl, ho2, hb2⟩
            have O2 := hide (SlIn.of_own ho2)
            have B2 := hide hb2
            have M2 := hide (cellOn M1.out hb2 P1.out)
            have P2 : Hid (0 < w2.heap.size) := Nat.lt_of_lt_of_le P1.out hb2.size
            have lc2 : (len1 : Int) ≤ (c2 : Int) := by have := O2.out.le; omega
            have lc3 := O2.out.top
            unfold maxLen at lc3
            clear ho2 hb2
            go_wp2_with fail
            refine (clone_any A1 len0 c1 z0 w2 ((O1.out.below B2.out (Nat.le_refl _)).mono B2.out.size) (by omega)).mono ?_
            rintro e w3 ⟨A3, c3, rfl, ho3, hb3⟩
            have O3 := hide ho3
            have B3 := hide hb3
            have M3 := hide (cellOn M2.out hb3 P2.out)
            clear ho3 hb3
            go_wp2_with fail
            refine (zzWrite_any w2.heap.size A3 A2 len0 c3 len1 c2 (z0.map bt) z1 w3 O3.out B3.out.size ((O2.out.below B3.out (Nat.le_refl _)).mono B3.out.size) M3.out (by omega)).mono ?_
            rintro e w4 ⟨A4, c4, rfl, ho4, hb4⟩
            have O4 := hide (SlIn.of_own (xs := (z0 ++ z1).map bt) (by rw [List.map_append]; exact ho4))
            have B4 := hide (B3.out.trans hb4)
            have M4 := hide (cellOn M3.out hb4 P2.out)
            have P4 : Hid (0 < w4.heap.size) := Nat.lt_of_lt_of_le P2.out B4.out.size
            clear ho4 hb4
            have B24 := hide (B2.out.trans (B4.out.mono B2.out.size))
            have HA : Hid (∀ W : World, W.heap = w4.heap → SlIn W W.heap.size A1 len0 c1 (z0.map bt)) := fun W hW => by
              have h1 := ((O1.out.below B24.out (Nat.le_refl _)).mono B24.out.size)
              rw [hW]
              exact h1.keep fun p _ => by simp [World.cell?, hW]
            go_wp2_with fail
            go_region_with (first | (go_at_call 8; refine (clone_any A1 len0 c1 z0 _ (by exact HA.out _ rfl) (by omega)).mono ?_; rintro e w5 ⟨A5, c5, rfl, ho5, hb5⟩; have O5 : Hid (w5.ownsRow w4.heap.size 5 1 (.slice A5 len0 c5) len0 (z0.map bt)) := ho5; have B5 : Hid (Below w4.heap.size w4 w5) := hide ⟨hb5.os, hb5.tape, hb5.output, hb5.size, hb5.block⟩; have M5 := hide (cellOn M4.out B5.out P4.out); have Q5 := hide (B4.out.trans (B5.out.mono B4.out.size)); clear ho5 hb5) | (go_at_call 13; refine (zzWrite_any w4.heap.size A5 A2 len0 c5 k c2 (z0.map bt) (z1.take k) w5 O5.out B5.out.size (by rw [List.map_take]; exact (((O2.out.pre hk1).below Q5.out (Nat.le_refl _)).mono Q5.out.size)) M5.out (by omega)).mono ?_; rintro e w6 ⟨A6, c6, rfl, ho6, hb6⟩; have O6 := hide ho6; have B6 := hide (B5.out.trans hb6); have M6 := hide (cellOn M5.out hb6 P4.out); clear ho6 hb6))
            all_goals go_wp2_with fail
            all_goals have Q6 := hide (B4.out.trans (B6.out.mono B4.out.size))
            all_goals first
              | (with_reducible refine (zzWrite_any w4.heap.size A6 A2 _ c6 (len1 - k) 0 _ (z1.drop k) w6 O6.out B6.out.size (by rw [List.map_drop]; exact (((O2.out.cut_end hk1 (by assumption)).below Q6.out (Nat.le_refl _)).mono Q6.out.size)) M6.out (by omega)).mono ?_)
              | (with_reducible refine (zzWrite_any w4.heap.size A6 (A2.map (·.add k)) _ c6 (len1 - k) (c2 - k) _ (z1.drop k) w6 O6.out B6.out.size (by rw [List.map_drop]; exact (((O2.out.cut_in hk1 (by assumption)).below Q6.out (Nat.le_refl _)).mono Q6.out.size)) M6.out (by omega)).mono ?_)
            all_goals rintro e w7 ⟨A7, c7, rfl, ho7, hb7⟩
            all_goals have O7 := hide (SlIn.of_own (xs := (z0 ++ z1).map bt) (by rw [← List.take_append_drop k z1, List.map_append, List.map_append, ← List.append_assoc]; simpa using ho7))
            all_goals have B7 := hide (B6.out.trans hb7)
            all_goals clear ho7 hb7
            all_goals go_wp2_with fail
            all_goals refine (eq_any A7 A4 _ c7 _ c4 (z0 ++ z1) (z0 ++ z1) w7 O7.out ((O4.out.below B7.out (Nat.le_refl _)).mono B7.out.size) (by omega) (by omega)).mono ?_
            all_goals rintro e w8 ⟨rfl, q, rfl⟩
            all_goals have hbb : ((z0 ++ z1) == (z0 ++ z1)) = true := by simp
            all_goals go_wp2
            all_goals go_ret
            all_goals refine ⟨by simp, below_drewN ?_ _⟩
            all_goals exact B1.out.trans ((B24.out.mono B1.out.size).trans (B7.out.mono (Nat.le_trans B1.out.size B24.out.size)))
          · have e1 : decide ((len1 : Int) < (k : Int)) = true := by simp; omega
            go_enter Tryd.func6, Tryd.ntmps6
            go_wp2
            go_ret
            exact ⟨rfl, Below.refl _ _⟩
        · have e0 : decide (a2 < 0) = true := by simp; omega
          go_enter Tryd.func6, Tryd.ntmps6
          go_wp2
          go_ret
          exact ⟨rfl, Below.refl _ _⟩
      · have d0 : decide ((524288 : Int) < (len0 : Int)) = false := by simp; omega
        have d1 : decide ((524288 : Int) < (len1 : Int)) = true := by simp; omega
        go_enter Tryd.func6, Tryd.ntmps6
        go_wp2
        go_ret
        exact ⟨rfl, Below.refl _ _⟩
    · have d0 : decide ((524288 : Int) < (len0 : Int)) = true := by simp; omega
      go_enter Tryd.func6, Tryd.ntmps6
      go_wp2
      go_ret
      exact ⟨rfl, Below.refl _ _⟩
  · go_enter Tryd.func6, Tryd.ntmps6
    go_wp2
    all_goals go_ret
    all_goals exact ⟨rfl, Below.refl _ _⟩
end Go.Proofs.YtegidggehpbkmaaDoor.fnFmtbufWriteSplitInvariant
