/- The law FnFmtbufWriteStringScriptAgreesWithWrite walked: the call returns true and writes nothing that was there. Its conditions: none beyond the arguments' types. -/
import Derived.Test.YtegidggehpbkmaaDoorProg
import Derived.Test.YtegidggehpbkmaaDoorBase
import Derived.Test.YtegidggehpbkmaaDoorRows
import Derived.Handy
import Derived.Outline
import Derived.WalkLawsBesides
import Derived.WalkSpells
import Derived.Deep.QuietTactic
import Derived.BigQuiet
import Derived.RegionTactic
import Derived.ChangeAlike
import Derived.Test.YtegidggehpbkmaaDoorLaid
import Derived.Test.YtegidggehpbkmaaDoorZZWrite
import Derived.Test.YtegidggehpbkmaaDoorCat
import Derived.Test.YtegidggehpbkmaaDoorCatStr
import Derived.Test.YtegidggehpbkmaaDoorEq
import Derived.MakeChecks
namespace Go.Proofs.YtegidggehpbkmaaDoor.fnFmtbufWriteStringScriptAgreesWithWrite
open Go.RowKit Go.Proofs.YtegidggehpbkmaaDoor
theorem maxCell {w : World} (hL : laidMetH Tryd.prog Rows.fnFmtbufWriteStringScriptAgreesWithWriteRow.laid w) : w.cell? ⟨0, 0, none⟩ = some (.int .i64 2147483647) := by
  rw [MakeChecks.laidMetH_plain _ _ _ (by kernel_rfl)] at hL
  exact laid_int (t := 3) hL (n := "github.com/d5/tengo/v2.MaxStringLen") (by simp [Rows.fnFmtbufWriteStringScriptAgreesWithWriteRow, Rows.laid_github_com_d5_tengo_v2_MaxStringLen]) (by kernel_rfl) (by kernel_rfl) Tryd.underlying3
theorem join_data (s t : ByteArray) : (s ++ t).data.toList = s.data.toList ++ t.data.toList := by simp [ByteArray.data_append]
theorem join_size (s t : ByteArray) : (s ++ t).size = s.size + t.size := ByteArray.size_append
theorem cellOn {w w' : World} {B : Nat} {v : Value} (h : w.cell? ⟨0, 0, none⟩ = some v) (hb : Below B w w') (hB : 0 < B) : w'.cell? ⟨0, 0, none⟩ = some v := (hb.cell (p := ⟨0, 0, none⟩) hB).trans h
set_option linter.unusedVariables false in
set_option maxHeartbeats 1000000 in
theorem walk (a0 : Option Addr) (len0 cap0 : Nat) (z0 : List UInt8) (a1 : ByteArray) (a2 : ByteArray) (w : World) (w0 : SlIn w w.heap.size a0 len0 cap0 (z0.map bt)) (w1 : a1.size ≤ maxLen) (w2 : a2.size ≤ maxLen) (hL : laidMetH Tryd.prog Rows.fnFmtbufWriteStringScriptAgreesWithWriteRow.laid w) :
    Calls Tryd.prog 5 #[.slice a0 len0 cap0, .string a1, .string a2] w fun e w' => e = .returned (.bool true) ∧ Below w.heap.size w w' := by
  have t0 := w0.top
  have l0 := w0.le
  unfold maxLen at t0 w1 w2
  have HM := hide (maxCell hL)
  have S0 := hide w0
  have HP : Hid (0 < w.heap.size) := World.block_lt_of_cell? w _ HM.out
  clear hL w0
  by_cases h : len0 + a1.size + a2.size ≤ 1048576
  · by_cases h0 : len0 ≤ 262144
    · by_cases h1 : a1.size ≤ 262144
      · by_cases h2 : a2.size ≤ 262144
        · have d0 : decide ((262144 : Int) < (len0 : Int)) = false := by simp; omega
          have d1 : decide ((262144 : Int) < (a1.size : Int)) = false := by simp; omega
          have d2 : decide ((262144 : Int) < (a2.size : Int)) = false := by simp; omega
          go_enter Tryd.func5, Tryd.ntmps5
          go_wp2_with (go_at_call 15; go_in)
          refine (clone_any a0 len0 cap0 z0 w S0.out (by omega)).mono ?_
          rintro e w1 ⟨A1, c1, rfl, ho1, hb1⟩
          have O1 := hide (SlIn.of_own ho1)
          have B1 := hide hb1
          have M1 := hide (cellOn HM.out hb1 HP.out)
          have P1 : Hid (0 < w1.heap.size) := Nat.lt_of_lt_of_le HP.out hb1.size
          clear ho1 hb1
          go_wp2_with fail
          refine (clone_any A1 len0 c1 z0 w1 O1.out (by omega)).mono ?_
          rintro e w2 ⟨A2, c2, rfl, ho2, hb2⟩
          have O2 := hide ho2
          have B2 := hide hb2
          have M2 := hide (cellOn M1.out hb2 P1.out)
          clear ho2 hb2
          go_wp2_with fail
          refine (zzWriteString_any w1.heap.size A2 len0 c2 (z0.map bt) a1 w2 O2.out B2.out.size M2.out (by omega)).mono ?_
          rintro e w3 ⟨A3, c3, rfl, ho3, hb3⟩
          have O3 := hide ho3
          have B3 := hide (B2.out.trans hb3)
          have M3 := hide (cellOn M2.out hb3 P1.out)
          clear ho3 hb3
          go_wp2_with fail
          refine (zzWriteString_any w1.heap.size A3 _ c3 _ a2 w3 O3.out B3.out.size M3.out (by omega)).mono ?_
          rintro e w4 ⟨A4, c4, rfl, ho4, hb4⟩
          have O4 := hide (SlIn.of_own (xs := (z0 ++ (a1.data.toList ++ a2.data.toList)).map bt) (by rw [List.map_append, List.map_append, ← List.append_assoc]; exact ho4))
          have B4 := hide (B3.out.trans hb4)
          have M4 := hide (cellOn M3.out hb4 P1.out)
          have P4 : Hid (0 < w4.heap.size) := Nat.lt_of_lt_of_le P1.out B4.out.size
          clear ho4 hb4
          go_wp2_with fail
          refine (clone_any A1 len0 c1 z0 w4 ((O1.out.below B4.out (Nat.le_refl _)).mono B4.out.size) (by omega)).mono ?_
          rintro e w5 ⟨A5, c5, rfl, ho5, hb5⟩
          have O5 := hide ho5
          have B5 := hide hb5
          have M5 := hide (cellOn M4.out hb5 P4.out)
          clear ho5 hb5
          have js := join_size a1 a2
          go_wp2_with fail
          refine (zzWriteString_any w4.heap.size A5 _ c5 _ (a1 ++ a2) w5 O5.out B5.out.size M5.out (by omega)).mono ?_
          rintro e w6 ⟨A6, c6, rfl, ho6, hb6⟩
          rw [js] at ho6
          have O6 := hide (SlIn.of_own (xs := (z0 ++ (a1.data.toList ++ a2.data.toList)).map bt) (by rw [List.map_append, ← join_data]; exact ho6))
          have B6 := hide (B5.out.trans hb6)
          have M6 := hide (cellOn M5.out hb6 P4.out)
          have P6 : Hid (0 < w6.heap.size) := Nat.lt_of_lt_of_le P4.out B6.out.size
          have B16 := hide (B4.out.trans (B6.out.mono B4.out.size))
          clear ho6 hb6
          go_wp2_with fail
          refine (clone_any A1 len0 c1 z0 w6 ((O1.out.below B16.out (Nat.le_refl _)).mono B16.out.size) (by omega)).mono ?_
          rintro e w7 ⟨A7, c7, rfl, ho7, hb7⟩
          have O7 := hide ho7
          have B7 := hide hb7
          have M7 := hide (cellOn M6.out hb7 P6.out)
          have P7 : Hid (0 < w7.heap.size) := Nat.lt_of_lt_of_le P6.out B7.out.size
          clear ho7 hb7
          go_wp2_with fail
          refine (catStr_any none 0 0 [] a1 w7 (SlIn.nilSlice _ _) (by omega) (by omega)).mono ?_
          rintro e w8 ⟨A8, c8, rfl, ho8, hb8⟩
          rw [Nat.zero_add, List.nil_append] at ho8
          have O8 := hide (SlIn.of_own ho8)
          have B8 := hide hb8
          have M8 := hide (cellOn M7.out hb8 P7.out)
          have P8 : Hid (0 < w8.heap.size) := Nat.lt_of_lt_of_le P7.out B8.out.size
          clear ho8 hb8
          go_wp2_with fail
          refine (catStr_any A8 a1.size c8 a1.data.toList a2 w8 O8.out (by omega) (by omega)).mono ?_
          rintro e w9 ⟨A9, c9, rfl, ho9, hb9⟩
          have O9 := hide (SlIn.of_own ho9)
          have B9 := hide (B7.out.trans ((B8.out.mono B7.out.size).trans (hb9.mono (Nat.le_trans B7.out.size B8.out.size))))
          have M9 := hide (cellOn M8.out hb9 P8.out)
          have O79 := hide (own_below (own_below O7.out B8.out) hb9)
          clear ho9 hb9
          go_wp2_with fail
          refine (zzWrite_any w6.heap.size A7 A9 len0 c7 _ c9 _ (a1.data.toList ++ a2.data.toList) w9 O79.out B9.out.size O9.out M9.out (by omega)).mono ?_
          rintro e w10 ⟨A10, c10, rfl, ho10, hb10⟩
          have O10 := hide (SlIn.of_own (xs := (z0 ++ (a1.data.toList ++ a2.data.toList)).map bt) (by rw [List.map_append]; exact ho10))
          have B10 := hide (B9.out.trans hb10)
          clear ho10 hb10
          go_wp2_with fail
          refine (eq_any A4 A6 _ c4 _ c6 (z0 ++ (a1.data.toList ++ a2.data.toList)) (z0 ++ (a1.data.toList ++ a2.data.toList)) w10 ((O4.out.below (B6.out.trans (B10.out.mono B6.out.size)) (Nat.le_refl _)).mono (Nat.le_trans B6.out.size B10.out.size)) ((O6.out.below B10.out (Nat.le_refl _)).mono B10.out.size) (by omega) (by omega)).mono ?_
          rintro e w11 ⟨rfl, q, rfl⟩
          have hbb : ((z0 ++ (a1.data.toList ++ a2.data.toList)) == (z0 ++ (a1.data.toList ++ a2.data.toList))) = true := by simp
          go_wp2_with fail
          refine (eq_any A6 A10 _ c6 _ c10 (z0 ++ (a1.data.toList ++ a2.data.toList)) (z0 ++ (a1.data.toList ++ a2.data.toList)) (w10.drewN q) (((O6.out.below B10.out (Nat.le_refl _)).mono B10.out.size).drewN q) (O10.out.drewN q) (by omega) (by omega)).mono ?_
          rintro e w12 ⟨rfl, q2, rfl⟩
          go_wp2
          go_ret
          refine ⟨by simp, below_drewN ?_ _⟩
          exact B1.out.trans ((B16.out.mono B1.out.size).trans (B10.out.mono (Nat.le_trans B1.out.size B16.out.size)))
        · have d0 : decide ((262144 : Int) < (len0 : Int)) = false := by simp; omega
          have d1 : decide ((262144 : Int) < (a1.size : Int)) = false := by simp; omega
          have d2 : decide ((262144 : Int) < (a2.size : Int)) = true := by simp; omega
          go_enter Tryd.func5, Tryd.ntmps5
          go_wp2
          go_ret
          exact ⟨rfl, Below.refl _ _⟩
      · have d0 : decide ((262144 : Int) < (len0 : Int)) = false := by simp; omega
        have d1 : decide ((262144 : Int) < (a1.size : Int)) = true := by simp; omega
        go_enter Tryd.func5, Tryd.ntmps5
        go_wp2
        go_ret
        exact ⟨rfl, Below.refl _ _⟩
    · have d0 : decide ((262144 : Int) < (len0 : Int)) = true := by simp; omega
      go_enter Tryd.func5, Tryd.ntmps5
      go_wp2
      go_ret
      exact ⟨rfl, Below.refl _ _⟩
  · go_enter Tryd.func5, Tryd.ntmps5
    go_wp2
    all_goals go_ret
    all_goals exact ⟨rfl, Below.refl _ _⟩
end Go.Proofs.YtegidggehpbkmaaDoor.fnFmtbufWriteStringScriptAgreesWithWrite
