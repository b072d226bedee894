/- The law FnWriteSingleByteAgreesWithWrite walked: the call returns true and writes nothing that was there. Its conditions: none beyond the arguments' types. -/
import Derived.Test.YtbdniedaofanpaaDoorProg
import Derived.Test.YtbdniedaofanpaaDoorBase
import Derived.Test.YtbdniedaofanpaaDoorRows
import Derived.Handy
import Derived.Outline
import Derived.WalkLawsBesides
import Derived.WalkSpells
import Derived.Deep.QuietTactic
import Derived.BigQuiet
import Derived.RegionTactic
import Derived.ChangeAlike
import Derived.Test.YtbdniedaofanpaaDoorLaid
import Derived.Test.YtbdniedaofanpaaDoorZZWriteB
import Derived.Test.YtbdniedaofanpaaDoorZZWriteP
import Derived.Test.YtbdniedaofanpaaDoorClone
import Derived.Test.YtbdniedaofanpaaDoorEq
import Derived.MakeChecks
namespace Go.Proofs.YtbdniedaofanpaaDoor.fnWriteSingleByteAgreesWithWrite
open Go.RowKit Go.Proofs.YtbdniedaofanpaaDoor
theorem maxCell {w : World} (hL : laidMetH Tryd.prog Rows.fnWriteSingleByteAgreesWithWriteRow.laid w) : w.cell? ⟨0, 0, none⟩ = some (.int .i64 2147483647) := by
  rw [MakeChecks.laidMetH_plain _ _ _ (by kernel_rfl)] at hL
  exact laid_int (t := 3) hL (n := "github.com/d5/tengo/v2.MaxStringLen") (by simp [Rows.fnWriteSingleByteAgreesWithWriteRow, Rows.laid_github_com_d5_tengo_v2_MaxStringLen]) (by kernel_rfl) (by kernel_rfl) Tryd.underlying3
theorem more {z0 z1 : List UInt8} {k : Nat} {x : UInt8} (h : z1[k]? = some x) : (z0 ++ z1.take k).map bt ++ [bt x] = (z0 ++ z1.take (k + 1)).map bt := by
  rw [List.take_add_one, h]; simp
set_option linter.unusedVariables false in
set_option maxHeartbeats 1000000 in
theorem walk (a0 : Option Addr) (len0 cap0 : Nat) (z0 : List UInt8) (a1 : Option Addr) (len1 cap1 : Nat) (z1 : List UInt8) (w : World) (w0 : SlIn w w.heap.size a0 len0 cap0 (z0.map bt)) (w1 : SlIn w w.heap.size a1 len1 cap1 (z1.map bt)) (hL : laidMetH Tryd.prog Rows.fnWriteSingleByteAgreesWithWriteRow.laid w) :
    Calls Tryd.prog 5 #[.slice a0 len0 cap0, .slice a1 len1 cap1] w fun e w' => e = .returned (.bool true) ∧ Below w.heap.size w w' := by
  have t0 := w0.top
  have l0 := w0.le
  have t1 := w1.top
  have l1 := w1.le
  unfold maxLen at t0 t1
  have HM := hide (maxCell hL)
  have S0 := hide w0
  have S1 := hide w1
  have HP : Hid (0 < w.heap.size) := World.block_lt_of_cell? w _ HM.out
  clear hL w0 w1
  by_cases h : len0 + len1 ≤ 1048576
  · by_cases h0 : len0 ≤ 524288
    · by_cases h1 : len1 ≤ 524288
      · go_enter Tryd.func5, Tryd.ntmps5
        go_wp2_with (go_at_call 14; go_in)
        refine (clone_any a0 len0 cap0 z0 w S0.out (by omega)).mono ?_
        rintro e w1 ⟨A1, c1, rfl, ho1, hb1⟩
        have O1 := hide (SlIn.of_own ho1)
        have B1 := hide hb1
        have M1 := hide (cellOn HM.out hb1 HP.out)
        have P1 : Hid (0 < w1.heap.size) := Nat.lt_of_lt_of_le HP.out hb1.size
        clear ho1 hb1
        go_wp2_with fail
        refine (clone_any a1 len1 cap1 z1 w1 ((S1.out.below B1.out (Nat.le_refl _)).mono B1.out.size) (by omega)).mono ?_
        rintro e w2 ⟨A2, c2, rfl, ho2, hb2⟩
        have O2 := hide (SlIn.of_own ho2)
        have B2 := hide hb2
        have M2 := hide (cellOn M1.out hb2 P1.out)
        have P2 : Hid (0 < w2.heap.size) := Nat.lt_of_lt_of_le P1.out hb2.size
        clear ho2 hb2
        go_wp2_with fail
        refine (clone_any A1 len0 c1 z0 w2 ((O1.out.below B2.out (Nat.le_refl _)).mono B2.out.size) (by omega)).mono ?_
        rintro e w3 ⟨A3, c3, rfl, ho3, hb3⟩
        have O3 : Hid (w3.ownsRow w2.heap.size 5 1 (.slice A3 (len0 + 0) c3) (len0 + 0) ((z0 ++ z1.take 0).map bt)) := by
          show w3.ownsRow _ _ _ _ _ _
          simpa using ho3
        have B3 := hide hb3
        clear ho3 hb3
        go_wp2_with fail
        go_loopw [5, 6] (fun v ix wr => ∃ k : Nat, k ≤ len1 ∧ ix = .int .i64 k ∧ ∃ A c, v = .slice A (len0 + k) c ∧ Hid (wr.ownsRow w2.heap.size 5 1 (.slice A (len0 + k) c) (len0 + k) ((z0 ++ z1.take k).map bt)) ∧ Hid (Below w2.heap.size w2 wr)) (fun _ ix _ => len1 - (intOf ix).toNat)
        case atStart => exact ⟨0, Nat.zero_le _, rfl, A3, c3, rfl, O3, B3⟩
        case round =>
          obtain ⟨k, hk, rfl, A, c, rfl, HO, HB⟩ := hrel
          clear O3 B3
          by_cases hlt : k < len1
          · obtain ⟨b, off, x, rfl, hb, hx, hc⟩ := O2.out.byte hlt
            have hcell : wr.cell? ⟨b, off + k, none⟩ = some (.int .u8 (x.toNat : Int)) := (HB.out.cell hb).trans hc
            have HX := hide hx
            clear hc hx
            go_wp2_with fail
            refine (zzWriteByte_any w2.heap.size A _ c _ x wr HO.out HB.out.size (cellOn M2.out HB.out P2.out) (by omega)).mono ?_
            rintro e w4 ⟨A4, c4, rfl, ho4, hg4⟩
            rw [more HX.out, Nat.add_assoc] at ho4
            have HO4 := hide ho4
            have HB4 := hide (HB.out.grown hg4 HB.out.size (fun k hk => (HO.out.lt k hk).1))
            clear ho4 hg4
            go_wp2
            go_roundw
            case rel => exact ⟨k + 1, by omega, by go_num, A4, c4, rfl, HO4, HB4⟩
            case measure => simp [intOf]; omega
          · have hkn : k = len1 := by omega
            subst hkn
            have HO5 := hide (SlIn.of_own (xs := (z0 ++ z1).map bt) (by have := HO.out; rw [List.take_of_length_le (by rw [O2.out.size]; exact Nat.le_refl _)] at this; exact this))
            have M5 := hide (cellOn M2.out HB.out P2.out)
            have P5 : Hid (0 < wr.heap.size) := Nat.lt_of_lt_of_le P2.out HB.out.size
            clear HO
            go_wp2_with fail
            have b25 := hide (B2.out.trans (HB.out.mono B2.out.size))
            refine (clone_any A1 len0 c1 z0 wr ((O1.out.below b25.out (Nat.le_refl _)).mono b25.out.size) (by omega)).mono ?_
            rintro e w6 ⟨A6, c6, rfl, ho6, hb6⟩
            have O6 := hide ho6
            have B6 := hide hb6
            have M6 := hide (cellOn M5.out hb6 P5.out)
            have b26 := hide (HB.out.trans (hb6.mono HB.out.size))
            clear ho6 hb6
            go_wp2_with fail
            refine (zzWrite_any wr.heap.size A6 A2 len0 c6 k c2 _ z1 w6 O6.out B6.out.size ((O2.out.below b26.out (Nat.le_refl _)).mono b26.out.size) M6.out (by omega)).mono ?_
            rintro e w7 ⟨A7, c7, rfl, ho7, hg7⟩
            have O7 := hide (SlIn.of_own (xs := (z0 ++ z1).map bt) (by rw [List.map_append]; exact ho7))
            have B7 := hide (B6.out.grown hg7 B6.out.size (fun k hk => (O6.out.lt k hk).1))
            clear ho7 hg7
            have e1 : (((len0 : Int) + (k : Int)) != (len0 : Int) + (k : Int)) = false := by simp
            go_wp2_with fail
            refine (eq_any A A7 _ c _ c7 (z0 ++ z1) (z0 ++ z1) w7 ((HO5.out.below B7.out (Nat.le_refl _)).mono B7.out.size) O7.out (by omega) (by omega)).mono ?_
            rintro e w8 ⟨rfl, q, rfl⟩
            have hz : ((z0 ++ z1) == (z0 ++ z1)) = true := by simp
            go_wp2
            go_ret
            refine ⟨by simp, below_drewN ?_ _⟩
            exact B1.out.trans ((b25.out.mono B1.out.size).trans (B7.out.mono (Nat.le_trans B1.out.size b25.out.size)))
      · go_enter Tryd.func5, Tryd.ntmps5
        go_wp2
        go_ret
        exact ⟨rfl, Below.refl _ _⟩
    · go_enter Tryd.func5, Tryd.ntmps5
      go_wp2
      go_ret
      exact ⟨rfl, Below.refl _ _⟩
  · go_enter Tryd.func5, Tryd.ntmps5
    go_wp2
    all_goals go_ret
    all_goals exact ⟨rfl, Below.refl _ _⟩
end Go.Proofs.YtbdniedaofanpaaDoor.fnWriteSingleByteAgreesWithWrite
