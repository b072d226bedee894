/- The law FnWriteRuneMatchesModel walked: the call returns true and writes nothing that was there. Its conditions: none beyond the arguments' types. -/
import Derived.Test.YtbdniedaofanpaaDoorProg
import Derived.Test.YtbdniedaofanpaaDoorBase
import Derived.Test.YtbdniedaofanpaaDoorRows
import Derived.Handy
import Derived.Outline
import Derived.WalkLawsBesides
import Derived.WalkSpells
import Derived.Deep.QuietTactic
import Derived.BigQuiet
import Derived.RegionTactic
import Derived.ChangeAlike
import Derived.Test.YtbdniedaofanpaaDoorLaid
import Derived.Test.YtbdniedaofanpaaDoorRuneModel
import Derived.Test.YtbdniedaofanpaaDoorClone
import Derived.Test.YtbdniedaofanpaaDoorEq
import Derived.MakeChecks
namespace Go.Proofs.YtbdniedaofanpaaDoor.fnWriteRuneMatchesModel
open Go.RowKit Go.Proofs.YtbdniedaofanpaaDoor
theorem maxCell {w : World} (hL : laidMetH Tryd.prog Rows.fnWriteRuneMatchesModelRow.laid w) : w.cell? ⟨0, 0, none⟩ = some (.int .i64 2147483647) := by
  rw [MakeChecks.laidMetH_plain _ _ _ (by kernel_rfl)] at hL
  exact laid_int (t := 3) hL (n := "github.com/d5/tengo/v2.MaxStringLen") (by simp [Rows.fnWriteRuneMatchesModelRow, Rows.laid_github_com_d5_tengo_v2_MaxStringLen]) (by kernel_rfl) (by kernel_rfl) Tryd.underlying3
set_option linter.unusedVariables false in
set_option maxHeartbeats 1000000 in
theorem walk (a0 : Option Addr) (len0 cap0 : Nat) (z0 : List UInt8) (a1 : Int) (w : World) (w0 : SlIn w w.heap.size a0 len0 cap0 (z0.map bt)) (w1 : (Lit.int .i32 a1).wf = true) (hL : laidMetH Tryd.prog Rows.fnWriteRuneMatchesModelRow.laid w) :
    Calls Tryd.prog 3 #[.slice a0 len0 cap0, .int .i32 a1] w fun e w' => e = .returned (.bool true) ∧ Below w.heap.size w w' := by
  have t0 := w0.top
  have l0 := w0.le
  unfold maxLen at t0
  obtain ⟨r0, r1⟩ := bounds_i32 w1
  have HM := hide (maxCell hL)
  have S0 := hide w0
  have HP : Hid (0 < w.heap.size) := World.block_lt_of_cell? w _ HM.out
  clear hL w0 w1
  obtain ⟨m, hm⟩ : ∃ m, (enc a1).length = m := ⟨_, rfl⟩
  have hm4 : 1 ≤ m ∧ m ≤ 4 := by rw [← hm]; exact enc_len a1
  obtain ⟨hm1, hm4⟩ := hm4
  obtain ⟨zb, hzb⟩ : ∃ zb, encB a1 = zb := ⟨_, rfl⟩
  have HV : Hid (encV a1 = zb.map bt) := by show encV a1 = _; rw [← hzb]; exact encB_map a1 r1
  have HZ : Hid (zb.length = m) := by show zb.length = m; rw [← hzb, encB_len, hm]
  have Hm := hide hm
  clear hm hzb
  by_cases h : len0 ≤ 1048576
  · go_enter Tryd.func3, Tryd.ntmps3
    go_wp2_with (go_at_call 7; go_in)
    refine (clone_any a0 len0 cap0 z0 w S0.out (by omega)).mono ?_
    rintro e w1 ⟨A1, c1, rfl, ho1, hb1⟩
    have O1 := hide (SlIn.of_own ho1)
    have B1 := hide hb1
    have M1 := hide (cellOn HM.out hb1 HP.out)
    have P1 : Hid (0 < w1.heap.size) := Nat.lt_of_lt_of_le HP.out hb1.size
    clear ho1 hb1
    go_wp2_with fail
    refine (clone_any A1 len0 c1 z0 w1 O1.out (by omega)).mono ?_
    rintro e w2 ⟨A2, c2, rfl, ho2, hb2⟩
    have O2 := hide ho2
    have B2 := hide hb2
    have M2 := hide (cellOn M1.out hb2 P1.out)
    clear ho2 hb2
    go_wp2_with fail
    have E := hide (zzWriteRune_any w1.heap.size A2 len0 c2 (z0.map bt) a1 w2 O2.out B2.out.size M2.out (by omega) r0 r1)
    rw [Hm.out, HV.out] at E
    refine E.out.mono ?_
    rintro e w3 ⟨A3, c3, rfl, ho3, hg3⟩
    have O3 := hide (SlIn.of_own ho3)
    have B3 := hide (B2.out.grown hg3 B2.out.size (fun k hk => (O2.out.lt k hk).1))
    have lc3 := O3.out.le
    have tc3 := O3.out.top
    unfold maxLen at tc3
    clear ho3 hg3 E
    go_wp2_with fail
    have E := hide (model_any a1 w3 r0 r1)
    rw [Hm.out, HV.out] at E
    refine E.out.mono ?_
    rintro e w4 ⟨A4, c4, rfl, ho4, hb4⟩
    have O4 := hide (SlIn.of_own ho4)
    have B4 := hide hb4
    have lc4 := O4.out.le
    clear ho4 hb4 E
    have e1 : (((len0 : Int) + (m : Int)) != (len0 : Int) + (m : Int)) = false := by simp
    go_wp2_with fail
    have B14 := hide (B3.out.trans (B4.out.mono B3.out.size))
    have SP := hide ((((O3.out.pre (k := len0) (by omega)).below B4.out (Nat.le_refl _)).mono B4.out.size))
    refine (eq_any A3 A1 len0 c3 len0 c1 z0 z0 w4 (by
      have := SP.out
      rw [List.take_left' (by simp [O1.out.size])] at this
      exact this) ((O1.out.below B14.out (Nat.le_refl _)).mono B14.out.size) (by omega) (by omega)).mono ?_
    rintro e w5 ⟨rfl, q, rfl⟩
    have hz : (z0 == z0) = true := by simp
    go_wp2_with fail
    have HD : Hid ((z0.map bt ++ zb.map bt).drop len0 = zb.map bt) := by
      show List.drop _ _ = _
      exact List.drop_left' (by simp [O1.out.size])
    have SC := hide (((O3.out.cut_in (k := len0) (by omega) (by omega)).below B4.out (Nat.le_refl _)).mono B4.out.size)
    rw [HD.out, Nat.add_sub_cancel_left] at SC
    refine (eq_any (A3.map (·.add len0)) A4 m (c3 - len0) m c4 zb zb (w4.drewN q) (SC.out.drewN q) (O4.out.drewN q) (by omega) (by omega)).mono ?_
    rintro e w6 ⟨rfl, q2, rfl⟩
    have hz2 : (zb == zb) = true := by simp
    go_wp2
    go_ret
    refine ⟨by simp, below_drewN ?_ _⟩
    exact B1.out.trans (B14.out.mono B1.out.size)
  · go_enter Tryd.func3, Tryd.ntmps3
    go_wp2
    all_goals go_ret
    all_goals exact ⟨rfl, Below.refl _ _⟩
end Go.Proofs.YtbdniedaofanpaaDoor.fnWriteRuneMatchesModel
