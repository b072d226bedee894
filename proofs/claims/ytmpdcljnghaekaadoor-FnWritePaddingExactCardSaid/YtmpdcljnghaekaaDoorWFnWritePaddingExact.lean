/- The law FnWritePaddingExact walked: the call returns true and writes nothing that was there. Its conditions: none beyond the arguments' types. -/
import Derived.Test.YtmpdcljnghaekaaDoorProg
import Derived.Test.YtmpdcljnghaekaaDoorBase
import Derived.Test.YtmpdcljnghaekaaDoorRows
import Derived.Handy
import Derived.Outline
import Derived.WalkLawsBesides
import Derived.WalkSpells
import Derived.Deep.QuietTactic
import Derived.BigQuiet
import Derived.RegionTactic
import Derived.ChangeAlike
import Derived.Test.YtmpdcljnghaekaaDoorLaid
import Derived.Test.YtmpdcljnghaekaaDoorFm
import Derived.Test.YtmpdcljnghaekaaDoorPadding
import Derived.Test.YtmpdcljnghaekaaDoorAppendPad
import Derived.Test.YtmpdcljnghaekaaDoorClone
import Derived.Test.YtmpdcljnghaekaaDoorEq
import Derived.MakeChecks
namespace Go.Proofs.YtmpdcljnghaekaaDoor.fnWritePaddingExact
open Go.RowKit Go.Proofs.YtmpdcljnghaekaaDoor
theorem maxCell {w : World} (hL : laidMetH Tryd.prog Rows.fnWritePaddingExactRow.laid w) : w.cell? ⟨0, 0, none⟩ = some (.int .i64 2147483647) := by
  rw [MakeChecks.laidMetH_plain _ _ _ (by kernel_rfl)] at hL
  exact laid_int (t := 3) hL (n := "github.com/d5/tengo/v2.MaxStringLen") (by simp [Rows.fnWritePaddingExactRow, Rows.laid_github_com_d5_tengo_v2_MaxStringLen]) (by kernel_rfl) (by kernel_rfl) Tryd.underlying3
theorem zero49 (w : World) : (zeroValue 49).run Tryd.prog w = .ok (.agg #[.pointer none, .bool false, .bool false, .bool false, .bool false, .bool false, .bool false, .bool false, .bool false, .bool false, .bool false, .bool false, .bool false, .int .i64 0, .int .i64 0, .int .u8 0, .int .u8 0, .int .u8 0, .int .u8 0, .int .u8 0, .int .u8 0, .int .u8 0, .int .u8 0, .int .u8 0, .int .u8 0, .int .u8 0, .int .u8 0, .int .u8 0, .int .u8 0, .int .u8 0, .int .u8 0, .int .u8 0, .int .u8 0, .int .u8 0, .int .u8 0, .int .u8 0, .int .u8 0, .int .u8 0, .int .u8 0, .int .u8 0, .int .u8 0, .int .u8 0, .int .u8 0, .int .u8 0, .int .u8 0, .int .u8 0, .int .u8 0, .int .u8 0, .int .u8 0, .int .u8 0, .int .u8 0, .int .u8 0, .int .u8 0, .int .u8 0, .int .u8 0, .int .u8 0, .int .u8 0, .int .u8 0, .int .u8 0, .int .u8 0, .int .u8 0, .int .u8 0, .int .u8 0, .int .u8 0, .int .u8 0, .int .u8 0, .int .u8 0, .int .u8 0, .int .u8 0, .int .u8 0, .int .u8 0, .int .u8 0, .int .u8 0, .int .u8 0, .int .u8 0, .int .u8 0, .int .u8 0, .int .u8 0, .int .u8 0, .int .u8 0, .int .u8 0, .int .u8 0, .int .u8 0]) w := by kernel_rfl
attribute [local go_sem] zero49
theorem padding_nat (fb pb base n : Nat) (F : Array Value) (xs : List Value) (m : Nat) (z : Bool) (w : World) (h : Fm w fb pb base n F xs) (hz : F[7]? = some (.bool z)) (hM : w.cell? ⟨0, 0, none⟩ = some (.int .i64 2147483647)) (hn : n ≤ 4194304) (hk : m ≤ 4194304) (hone : ∀ v ∈ xs, v.oneCell' = true) :
    Calls Tryd.prog 36 #[.pointer (some ⟨fb, 0, none⟩), .int .i64 (m : Int)] w (Padded fb pb base (n + m) F (xs ++ padL z m) w) :=
  padding_any fb pb base n F xs m z w h hz hM hn (by omega) (by omega) hone
theorem padL_map (z : Bool) (m : Nat) : padL z m = (List.replicate m (pby z)).map bt := by simp [padL]
theorem padL_one (z : Bool) (xs : List UInt8) (m : Nat) : ∀ v ∈ xs.map bt ++ padL z m, v.oneCell' = true := by
  rw [padL_map, ← List.map_append]
  exact bts_one _
set_option linter.unusedVariables false in
set_option maxRecDepth 100000 in
set_option maxHeartbeats 4000000 in
theorem walk (a0 : Option Addr) (len0 cap0 : Nat) (z0 : List UInt8) (a1 : Int) (a2 : Bool) (a3 : Bool) (w : World) (w0 : SlIn w w.heap.size a0 len0 cap0 (z0.map bt)) (w1 : (Lit.int .i64 a1).wf = true) (hL : laidMetH Tryd.prog Rows.fnWritePaddingExactRow.laid w) :
    Calls Tryd.prog 6 #[.slice a0 len0 cap0, .int .i64 a1, .bool a2, .bool a3] w fun e w' => e = .returned (.bool true) ∧ Below w.heap.size w w' := by
  obtain ⟨i, hi, hz0, hz1, hz2⟩ := info_parts info_u8
  have t0 := w0.top
  have l0 := w0.le
  unfold maxLen at t0
  have hw1 := bounds_i64 w1
  have HM := hide (maxCell hL)
  have HP : Hid (0 < w.heap.size) := World.block_lt_of_cell? w _ HM.out
  have S0 := hide w0
  clear hL w0 w1
  by_cases h : len0 ≤ 1048576
  · by_cases h1 : a1 ≤ 65536
    ·
      go_enter Tryd.func6, Tryd.ntmps6
      go_wp2_with (go_at_call 24; go_in)
      refine (clone_any a0 len0 cap0 z0 w S0.out (by omega)).mono ?_
      rintro e w1 ⟨A1, c1, rfl, ho1, hb1⟩
      have O1 := hide (SlIn.of_own ho1)
      have B1 := hide hb1
      have M1 := hide (cellOn HM.out hb1 HP.out)
      have P1 : Hid (0 < w1.heap.size) := Nat.lt_of_lt_of_le HP.out hb1.size
      clear ho1 hb1
      go_wp2_with (first | (at_make; refine wpList_make_own _ rfl _ _ 22 rfl w1.heap.size 5 i (.int .u8 0) 1 Tryd.underlying22 hi hz0 hz1 _ _ _ len0 rfl rfl (by simp) (by rw [hz2]; omega) (by unfold maxLen; omega) (Nat.le_refl _) ?_; intro w5 hown5 hgrow5; have O5 := hide hown5; have B5 := hide ((Below.refl w1.heap.size w1).grown hgrow5 (Nat.le_refl _) (fun k hk => by cases hk)); have SI := hide ((O1.out.below B5.out (Nat.le_refl _)).mono B5.out.size); have h5s := B5.out.size; clear hown5 hgrow5) | (at_builtin; refine wpList_append_in _ rfl _ _ 22 22 rfl w1.heap.size 5 5 i (.int .u8 0) 1 Tryd.underlying22 Tryd.underlying22 hi hz0 hz1 hz2 rfl _ 0 [] rfl O5.out w5.heap.size A1 len0 c1 (z0.map bt) rfl SI.out (bts_one z0) (by unfold maxLen; omega) (by omega) (by omega) ?_; intro A6 c6 w6 hown6 hgrow6; have O6 := hide (show w6.ownsRow w1.heap.size 5 1 (.slice A6 len0 c6) len0 (z0.map bt) by simpa using hown6); have B6 := hide (B5.out.grown hgrow6 B5.out.size (fun k hk => (O5.out.lt k hk).1)); clear hown6 hgrow6 O5 SI h5s))
      refine (appendPadding_any w1.heap.size A6 len0 c6 (z0.map bt) a1 a2 w6 O6.out B6.out.size (by omega) (by omega) (by omega)).mono ?_
      rintro e w7 ⟨A7, c7, rfl, ho7, hb7⟩
      have O7 : Hid (SlIn w7 w7.heap.size A7 (len0 + a1.toNat) c7 ((z0 ++ List.replicate a1.toNat (pby a2)).map bt)) := by
        have := SlIn.of_own ho7
        rw [padL_map] at this
        simpa [Hid, List.map_append] using this
      have B7 : Hid (Below w1.heap.size w1 w7) := B6.out.trans hb7
      clear ho7 hb7
      go_wp2_with fail
      refine (clone_any A1 len0 c1 z0 w7 ((O1.out.below B7.out (Nat.le_refl _)).mono B7.out.size) (by omega)).mono ?_
      rintro e w2 ⟨A2, c2, rfl, ho2, hb2⟩
      have O2 := hide ho2
      have B2 := hide hb2
      clear ho2 hb2
      go_wp2_with (first | (go_at_call 13; go_in) | (go_at_call 31; go_in) | (go_at_call 33; go_in) | (go_at_call 15; go_in) | (go_at_call 26; go_in))
      have FM2 := hide (Fm.new O2.out B2.out.size (F := #[.pointer (some ⟨w2.heap.size, 0, none⟩), .bool false, .bool false, .bool a3, .bool false, .bool false, .bool false, .bool a2, .bool false, .bool false, .bool false, .bool false, .bool false, .int .i64 0, .int .i64 0, .int .u8 0, .int .u8 0, .int .u8 0, .int .u8 0, .int .u8 0, .int .u8 0, .int .u8 0, .int .u8 0, .int .u8 0, .int .u8 0, .int .u8 0, .int .u8 0, .int .u8 0, .int .u8 0, .int .u8 0, .int .u8 0, .int .u8 0, .int .u8 0, .int .u8 0, .int .u8 0, .int .u8 0, .int .u8 0, .int .u8 0, .int .u8 0, .int .u8 0, .int .u8 0, .int .u8 0, .int .u8 0, .int .u8 0, .int .u8 0, .int .u8 0, .int .u8 0, .int .u8 0, .int .u8 0, .int .u8 0, .int .u8 0, .int .u8 0, .int .u8 0, .int .u8 0, .int .u8 0, .int .u8 0, .int .u8 0, .int .u8 0, .int .u8 0, .int .u8 0, .int .u8 0, .int .u8 0, .int .u8 0, .int .u8 0, .int .u8 0, .int .u8 0, .int .u8 0, .int .u8 0, .int .u8 0, .int .u8 0, .int .u8 0, .int .u8 0, .int .u8 0, .int .u8 0, .int .u8 0, .int .u8 0, .int .u8 0, .int .u8 0, .int .u8 0, .int .u8 0, .int .u8 0, .int .u8 0, .int .u8 0]) rfl)
      have BW2 : Hid (Below w2.heap.size w2 _) := (((Below.refl w2.heap.size w2).alloc (Nat.le_refl _) (.cells #[.slice A2 len0 c2] 43)).alloc (by simp) (.cells #[.pointer (some ⟨w2.heap.size, 0, none⟩), .bool false, .bool false, .bool a3, .bool false, .bool false, .bool false, .bool a2, .bool false, .bool false, .bool false, .bool false, .bool false, .int .i64 0, .int .i64 0, .int .u8 0, .int .u8 0, .int .u8 0, .int .u8 0, .int .u8 0, .int .u8 0, .int .u8 0, .int .u8 0, .int .u8 0, .int .u8 0, .int .u8 0, .int .u8 0, .int .u8 0, .int .u8 0, .int .u8 0, .int .u8 0, .int .u8 0, .int .u8 0, .int .u8 0, .int .u8 0, .int .u8 0, .int .u8 0, .int .u8 0, .int .u8 0, .int .u8 0, .int .u8 0, .int .u8 0, .int .u8 0, .int .u8 0, .int .u8 0, .int .u8 0, .int .u8 0, .int .u8 0, .int .u8 0, .int .u8 0, .int .u8 0, .int .u8 0, .int .u8 0, .int .u8 0, .int .u8 0, .int .u8 0, .int .u8 0, .int .u8 0, .int .u8 0, .int .u8 0, .int .u8 0, .int .u8 0, .int .u8 0, .int .u8 0, .int .u8 0, .int .u8 0, .int .u8 0, .int .u8 0, .int .u8 0, .int .u8 0, .int .u8 0, .int .u8 0, .int .u8 0, .int .u8 0, .int .u8 0, .int .u8 0, .int .u8 0, .int .u8 0, .int .u8 0, .int .u8 0, .int .u8 0, .int .u8 0, .int .u8 0] 49))
      obtain ⟨W2, hW⟩ : ∃ W2 : World, W2 = (w2.alloc (.cells #[.slice A2 len0 c2] 43)).alloc (.cells #[.pointer (some ⟨w2.heap.size, 0, none⟩), .bool false, .bool false, .bool a3, .bool false, .bool false, .bool false, .bool a2, .bool false, .bool false, .bool false, .bool false, .bool false, .int .i64 0, .int .i64 0, .int .u8 0, .int .u8 0, .int .u8 0, .int .u8 0, .int .u8 0, .int .u8 0, .int .u8 0, .int .u8 0, .int .u8 0, .int .u8 0, .int .u8 0, .int .u8 0, .int .u8 0, .int .u8 0, .int .u8 0, .int .u8 0, .int .u8 0, .int .u8 0, .int .u8 0, .int .u8 0, .int .u8 0, .int .u8 0, .int .u8 0, .int .u8 0, .int .u8 0, .int .u8 0, .int .u8 0, .int .u8 0, .int .u8 0, .int .u8 0, .int .u8 0, .int .u8 0, .int .u8 0, .int .u8 0, .int .u8 0, .int .u8 0, .int .u8 0, .int .u8 0, .int .u8 0, .int .u8 0, .int .u8 0, .int .u8 0, .int .u8 0, .int .u8 0, .int .u8 0, .int .u8 0, .int .u8 0, .int .u8 0, .int .u8 0, .int .u8 0, .int .u8 0, .int .u8 0, .int .u8 0, .int .u8 0, .int .u8 0, .int .u8 0, .int .u8 0, .int .u8 0, .int .u8 0, .int .u8 0, .int .u8 0, .int .u8 0, .int .u8 0, .int .u8 0, .int .u8 0, .int .u8 0, .int .u8 0, .int .u8 0] 49) := ⟨_, rfl⟩
      rw [← hW] at FM2 BW2 ⊢
      clear hW
      have B12 : Hid (Below w7.heap.size w7 W2) := B2.out.trans (BW2.out.mono B2.out.size)
      have B1W : Hid (Below w1.heap.size w1 W2) := B7.out.trans (B12.out.mono B7.out.size)
      refine (padding_any _ _ _ len0 _ (z0.map bt) a1 a2 W2 FM2.out rfl (cellOn M1.out B1W.out P1.out) (by omega) (by omega) (by omega) (bts_one z0)).mono ?_
      rintro e w3 ⟨rfl, fm3, b3⟩
      have FM3 := hide fm3
      have B73 : Hid (Below w7.heap.size w7 w3) := B12.out.trans b3
      have g1 := FM3.out.cell FM3.out.ptr
      obtain ⟨Ax, cx, hbx, hox⟩ := FM3.out.holds
      have x1 := cell_of_one hbx
      have SX : Hid (SlIn w3 w3.heap.size Ax (len0 + a1.toNat) cx ((z0 ++ List.replicate a1.toNat (pby a2)).map bt)) := by
        have := SlIn.of_own hox
        rw [padL_map] at this
        simpa [Hid, List.map_append] using this
      have SY := hide ((O7.out.below B73.out (Nat.le_refl _)).mono B73.out.size)
      clear fm3 b3 hbx hox
      go_wp2_with (go_at_call 18; go_in)
      refine (eq_any Ax A7 _ cx _ c7 _ _ w3 SX.out SY.out (by omega) (by omega)).mono ?_
      rintro e w8 ⟨rfl, q, rfl⟩
      have hbb : ((z0 ++ List.replicate a1.toNat (pby a2)) == (z0 ++ List.replicate a1.toNat (pby a2))) = true := by simp
      go_wp2
      go_ret
      refine ⟨by simp, below_drewN ?_ _⟩
      exact B1.out.trans ((B7.out.mono B1.out.size).trans (B73.out.mono (Nat.le_trans B1.out.size B7.out.size)))
    · go_enter Tryd.func6, Tryd.ntmps6
      go_wp2
      all_goals go_ret
      all_goals exact ⟨rfl, Below.refl _ _⟩
  · go_enter Tryd.func6, Tryd.ntmps6
    go_wp2
    all_goals go_ret
    all_goals exact ⟨rfl, Below.refl _ _⟩
end Go.Proofs.YtmpdcljnghaekaaDoor.fnWritePaddingExact
