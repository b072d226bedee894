/- The law FnWriteSingleByteAppends walked: the call returns true and writes nothing that was there. Its conditions: none beyond the arguments' types. -/
import Derived.Test.YtbdniedaofanpaaDoorProg
import Derived.Test.YtbdniedaofanpaaDoorBase
import Derived.Test.YtbdniedaofanpaaDoorRows
import Derived.Handy
import Derived.Outline
import Derived.WalkLawsBesides
import Derived.WalkSpells
import Derived.Deep.QuietTactic
import Derived.BigQuiet
import Derived.RegionTactic
import Derived.ChangeAlike
import Derived.Test.YtbdniedaofanpaaDoorLaid
import Derived.Test.YtbdniedaofanpaaDoorZZWriteB
import Derived.Test.YtbdniedaofanpaaDoorZZWriteP
import Derived.Test.YtbdniedaofanpaaDoorClone
import Derived.Test.YtbdniedaofanpaaDoorEq
import Derived.MakeChecks
namespace Go.Proofs.YtbdniedaofanpaaDoor.fnWriteSingleByteAppends
open Go.RowKit Go.Proofs.YtbdniedaofanpaaDoor
theorem maxCell {w : World} (hL : laidMetH Tryd.prog Rows.fnWriteSingleByteAppendsRow.laid w) : w.cell? ⟨0, 0, none⟩ = some (.int .i64 2147483647) := by
  rw [MakeChecks.laidMetH_plain _ _ _ (by kernel_rfl)] at hL
  exact laid_int (t := 3) hL (n := "github.com/d5/tengo/v2.MaxStringLen") (by simp [Rows.fnWriteSingleByteAppendsRow, Rows.laid_github_com_d5_tengo_v2_MaxStringLen]) (by kernel_rfl) (by kernel_rfl) Tryd.underlying3
set_option linter.unusedVariables false in
set_option maxHeartbeats 1000000 in
theorem walk (a0 : Option Addr) (len0 cap0 : Nat) (z0 : List UInt8) (a1 : Int) (w : World) (w0 : SlIn w w.heap.size a0 len0 cap0 (z0.map bt)) (w1 : (Lit.int .u8 a1).wf = true) (hL : laidMetH Tryd.prog Rows.fnWriteSingleByteAppendsRow.laid w) :
    Calls Tryd.prog 4 #[.slice a0 len0 cap0, .int .u8 a1] w fun e w' => e = .returned (.bool true) ∧ Below w.heap.size w w' := by
  have t0 := w0.top
  have l0 := w0.le
  unfold maxLen at t0
  obtain ⟨x, rfl⟩ := u8_of w1
  have HM := hide (maxCell hL)
  have S0 := hide w0
  have HP : Hid (0 < w.heap.size) := World.block_lt_of_cell? w _ HM.out
  clear hL w0 w1
  by_cases h : len0 ≤ 1048576
  · go_enter Tryd.func4, Tryd.ntmps4
    go_wp2_with (go_at_call 12; go_in)
    refine (clone_any a0 len0 cap0 z0 w S0.out (by omega)).mono ?_
    rintro e w1 ⟨A1, c1, rfl, ho1, hb1⟩
    have O1 := hide ho1
    have B1 := hide hb1
    have M1 := hide (cellOn HM.out hb1 HP.out)
    have P1 : Hid (0 < w1.heap.size) := Nat.lt_of_lt_of_le HP.out hb1.size
    clear ho1 hb1
    go_wp2_with fail
    refine (clone_any A1 len0 c1 z0 w1 (SlIn.of_own O1.out) (by omega)).mono ?_
    rintro e w2 ⟨A2, c2, rfl, ho2, hb2⟩
    have O2 := hide ho2
    have B2 := hide hb2
    have M2 := hide (cellOn M1.out hb2 P1.out)
    have O12 := hide (own_below O1.out hb2)
    clear ho2 hb2
    go_wp2_with fail
    refine (zzWriteByte_any w.heap.size A1 len0 c1 _ x w2 O12.out (Nat.le_trans B1.out.size B2.out.size) M2.out (by omega)).mono ?_
    rintro e w3 ⟨A3, c3, rfl, ho3, hg3⟩
    have O3 := hide ho3
    have O23 := hide (O2.out.kept hg3 (own_apart O1.out O2.out))
    have G3 := hide (((B1.out.trans (B2.out.mono B1.out.size)).grown hg3 (Nat.le_trans B1.out.size B2.out.size) (fun k hk => (O1.out.lt k hk).1)))
    have lc3 := (SlIn.of_own ho3).le
    have tc3 := (SlIn.of_own ho3).top
    unfold maxLen at tc3
    clear ho3 hg3
    have e1 : (((len0 : Int) + 1) != (len0 : Int) + 1) = false := by simp
    go_wp2_with fail
    have SA := hide ((SlIn.of_own O3.out).pre (k := len0) (by omega))
    obtain ⟨b, off, u, hA, hbb, hx, hc⟩ := (SlIn.of_own O3.out).cell (k := len0) (by omega)
    have hu : u = bt x := by
      rw [List.getElem?_append_right (by simp [(SlIn.of_own O2.out).size])] at hx
      simpa [(SlIn.of_own O2.out).size] using hx.symm
    subst hu
    subst hA
    refine (eq_any _ A2 len0 c3 len0 c2 z0 z0 w3 (by
      have := SA.out
      rw [List.take_left' (by simp [(SlIn.of_own O2.out).size])] at this
      exact this) (SlIn.of_own O23.out) (by omega) (by omega)).mono ?_
    rintro e w4 ⟨rfl, q, rfl⟩
    have hz : (z0 == z0) = true := by simp
    have hxx : ((x.toNat : Int) == (x.toNat : Int)) = true := by simp
    clear hx
    go_wp2
    go_ret
    refine ⟨by simp, below_drewN ?_ _⟩
    exact G3.out
  · go_enter Tryd.func4, Tryd.ntmps4
    go_wp2
    all_goals go_ret
    all_goals exact ⟨rfl, Below.refl _ _⟩
end Go.Proofs.YtbdniedaofanpaaDoor.fnWriteSingleByteAppends
