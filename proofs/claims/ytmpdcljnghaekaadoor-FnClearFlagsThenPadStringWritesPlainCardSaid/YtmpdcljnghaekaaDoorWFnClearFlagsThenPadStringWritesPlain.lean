/- The law FnClearFlagsThenPadStringWritesPlain walked: the call returns true and writes nothing that was there. Its conditions: none beyond the arguments' types. -/
import Derived.Test.YtmpdcljnghaekaaDoorProg
import Derived.Test.YtmpdcljnghaekaaDoorBase
import Derived.Test.YtmpdcljnghaekaaDoorRows
import Derived.Handy
import Derived.Outline
import Derived.WalkLawsBesides
import Derived.WalkSpells
import Derived.Deep.QuietTactic
import Derived.BigQuiet
import Derived.RegionTactic
import Derived.ChangeAlike
import Derived.Test.YtmpdcljnghaekaaDoorLaid
import Derived.Test.YtmpdcljnghaekaaDoorWriteS
import Derived.Test.YtmpdcljnghaekaaDoorFm
import Derived.Test.YtmpdcljnghaekaaDoorClone
import Derived.Test.YtmpdcljnghaekaaDoorEq
import Derived.MakeChecks
namespace Go.Proofs.YtmpdcljnghaekaaDoor.fnClearFlagsThenPadStringWritesPlain
open Go.RowKit Go.Proofs.YtmpdcljnghaekaaDoor
theorem maxCell {w : World} (hL : laidMetH Tryd.prog Rows.fnClearFlagsThenPadStringWritesPlainRow.laid w) : w.cell? ⟨0, 0, none⟩ = some (.int .i64 2147483647) := by
  rw [MakeChecks.laidMetH_plain _ _ _ (by kernel_rfl)] at hL
  exact laid_int (t := 3) hL (n := "github.com/d5/tengo/v2.MaxStringLen") (by simp [Rows.fnClearFlagsThenPadStringWritesPlainRow, Rows.laid_github_com_d5_tengo_v2_MaxStringLen]) (by kernel_rfl) (by kernel_rfl) Tryd.underlying3
theorem zero49 (w : World) : (zeroValue 49).run Tryd.prog w = .ok (.agg #[.pointer none, .bool false, .bool false, .bool false, .bool false, .bool false, .bool false, .bool false, .bool false, .bool false, .bool false, .bool false, .bool false, .int .i64 0, .int .i64 0, .int .u8 0, .int .u8 0, .int .u8 0, .int .u8 0, .int .u8 0, .int .u8 0, .int .u8 0, .int .u8 0, .int .u8 0, .int .u8 0, .int .u8 0, .int .u8 0, .int .u8 0, .int .u8 0, .int .u8 0, .int .u8 0, .int .u8 0, .int .u8 0, .int .u8 0, .int .u8 0, .int .u8 0, .int .u8 0, .int .u8 0, .int .u8 0, .int .u8 0, .int .u8 0, .int .u8 0, .int .u8 0, .int .u8 0, .int .u8 0, .int .u8 0, .int .u8 0, .int .u8 0, .int .u8 0, .int .u8 0, .int .u8 0, .int .u8 0, .int .u8 0, .int .u8 0, .int .u8 0, .int .u8 0, .int .u8 0, .int .u8 0, .int .u8 0, .int .u8 0, .int .u8 0, .int .u8 0, .int .u8 0, .int .u8 0, .int .u8 0, .int .u8 0, .int .u8 0, .int .u8 0, .int .u8 0, .int .u8 0, .int .u8 0, .int .u8 0, .int .u8 0, .int .u8 0, .int .u8 0, .int .u8 0, .int .u8 0, .int .u8 0, .int .u8 0, .int .u8 0, .int .u8 0, .int .u8 0, .int .u8 0]) w := by kernel_rfl
attribute [local go_sem] zero49
set_option linter.unusedVariables false in
set_option maxRecDepth 100000 in
set_option maxHeartbeats 4000000 in
theorem walk (a0 : Int) (a1 : Int) (a2 : Option Addr) (len2 cap2 : Nat) (z2 : List UInt8) (a3 : ByteArray) (w : World) (w0 : (Lit.int .u16 a0).wf = true) (w1 : (Lit.int .i64 a1).wf = true) (w2 : SlIn w w.heap.size a2 len2 cap2 (z2.map bt)) (w3 : a3.size ≤ maxLen) (hL : laidMetH Tryd.prog Rows.fnClearFlagsThenPadStringWritesPlainRow.laid w) :
    Calls Tryd.prog 4 #[.int .u16 a0, .int .i64 a1, .slice a2 len2 cap2, .string a3] w fun e w' => e = .returned (.bool true) ∧ Below w.heap.size w w' := by
  obtain ⟨i, hi, hz0, hz1, hz2⟩ := info_parts info_u8
  have t2 := w2.top
  have l2 := w2.le
  unfold maxLen at t2 w3
  have HM := hide (maxCell hL)
  have HP : Hid (0 < w.heap.size) := World.block_lt_of_cell? w _ HM.out
  have S0 := hide w2
  clear hL w2
  by_cases h : len2 + a3.size ≤ 1048576
  · go_enter Tryd.func4, Tryd.ntmps4
    go_wp2_with (go_at_call 19; go_in)
    refine (clone_any a2 len2 cap2 z2 w S0.out (by omega)).mono ?_
    rintro e w1 ⟨A1, c1, rfl, ho1, hb1⟩
    have O1 := hide (SlIn.of_own ho1)
    have B1 := hide hb1
    have M1 := hide (cellOn HM.out hb1 HP.out)
    clear ho1 hb1
    go_wp2_with fail
    refine (clone_any A1 len2 c1 z2 w1 O1.out (by omega)).mono ?_
    rintro e w2 ⟨A2, c2, rfl, ho2, hb2⟩
    have O2 := hide ho2
    have B2 := hide hb2
    clear ho2 hb2
    go_wp2_with (first | (go_at_call 13; go_in) | (go_at_call 31; go_in) | (go_at_call 33; go_in) | (go_at_call 14; go_in) | (go_at_call 15; go_in) | (go_at_call 20; go_in) | (go_at_call 21; go_in) | (go_at_call 16; go_in) | (go_at_call 32; go_in))
    have FM := hide (Fm.new O2.out B2.out.size (F := #[.pointer (some ⟨w2.heap.size, 0, none⟩), .bool false, .bool false, .bool false, .bool false, .bool false, .bool false, .bool false, .bool false, .bool false, .bool false, .bool false, .bool false, .int .i64 a1, .int .i64 a1, .int .u8 0, .int .u8 0, .int .u8 0, .int .u8 0, .int .u8 0, .int .u8 0, .int .u8 0, .int .u8 0, .int .u8 0, .int .u8 0, .int .u8 0, .int .u8 0, .int .u8 0, .int .u8 0, .int .u8 0, .int .u8 0, .int .u8 0, .int .u8 0, .int .u8 0, .int .u8 0, .int .u8 0, .int .u8 0, .int .u8 0, .int .u8 0, .int .u8 0, .int .u8 0, .int .u8 0, .int .u8 0, .int .u8 0, .int .u8 0, .int .u8 0, .int .u8 0, .int .u8 0, .int .u8 0, .int .u8 0, .int .u8 0, .int .u8 0, .int .u8 0, .int .u8 0, .int .u8 0, .int .u8 0, .int .u8 0, .int .u8 0, .int .u8 0, .int .u8 0, .int .u8 0, .int .u8 0, .int .u8 0, .int .u8 0, .int .u8 0, .int .u8 0, .int .u8 0, .int .u8 0, .int .u8 0, .int .u8 0, .int .u8 0, .int .u8 0, .int .u8 0, .int .u8 0, .int .u8 0, .int .u8 0, .int .u8 0, .int .u8 0, .int .u8 0, .int .u8 0, .int .u8 0, .int .u8 0, .int .u8 0]) rfl)
    have B3 : Hid (Below w2.heap.size w2 _) := (((Below.refl w2.heap.size w2).alloc (Nat.le_refl _) (.cells #[.slice A2 len2 c2] 43)).alloc (by simp) (.cells #[.pointer (some ⟨w2.heap.size, 0, none⟩), .bool false, .bool false, .bool false, .bool false, .bool false, .bool false, .bool false, .bool false, .bool false, .bool false, .bool false, .bool false, .int .i64 a1, .int .i64 a1, .int .u8 0, .int .u8 0, .int .u8 0, .int .u8 0, .int .u8 0, .int .u8 0, .int .u8 0, .int .u8 0, .int .u8 0, .int .u8 0, .int .u8 0, .int .u8 0, .int .u8 0, .int .u8 0, .int .u8 0, .int .u8 0, .int .u8 0, .int .u8 0, .int .u8 0, .int .u8 0, .int .u8 0, .int .u8 0, .int .u8 0, .int .u8 0, .int .u8 0, .int .u8 0, .int .u8 0, .int .u8 0, .int .u8 0, .int .u8 0, .int .u8 0, .int .u8 0, .int .u8 0, .int .u8 0, .int .u8 0, .int .u8 0, .int .u8 0, .int .u8 0, .int .u8 0, .int .u8 0, .int .u8 0, .int .u8 0, .int .u8 0, .int .u8 0, .int .u8 0, .int .u8 0, .int .u8 0, .int .u8 0, .int .u8 0, .int .u8 0, .int .u8 0, .int .u8 0, .int .u8 0, .int .u8 0, .int .u8 0, .int .u8 0, .int .u8 0, .int .u8 0, .int .u8 0, .int .u8 0, .int .u8 0, .int .u8 0, .int .u8 0, .int .u8 0, .int .u8 0, .int .u8 0, .int .u8 0, .int .u8 0] 49))
    obtain ⟨W, hW⟩ : ∃ W : World, W = (w2.alloc (.cells #[.slice A2 len2 c2] 43)).alloc (.cells #[.pointer (some ⟨w2.heap.size, 0, none⟩), .bool false, .bool false, .bool false, .bool false, .bool false, .bool false, .bool false, .bool false, .bool false, .bool false, .bool false, .bool false, .int .i64 a1, .int .i64 a1, .int .u8 0, .int .u8 0, .int .u8 0, .int .u8 0, .int .u8 0, .int .u8 0, .int .u8 0, .int .u8 0, .int .u8 0, .int .u8 0, .int .u8 0, .int .u8 0, .int .u8 0, .int .u8 0, .int .u8 0, .int .u8 0, .int .u8 0, .int .u8 0, .int .u8 0, .int .u8 0, .int .u8 0, .int .u8 0, .int .u8 0, .int .u8 0, .int .u8 0, .int .u8 0, .int .u8 0, .int .u8 0, .int .u8 0, .int .u8 0, .int .u8 0, .int .u8 0, .int .u8 0, .int .u8 0, .int .u8 0, .int .u8 0, .int .u8 0, .int .u8 0, .int .u8 0, .int .u8 0, .int .u8 0, .int .u8 0, .int .u8 0, .int .u8 0, .int .u8 0, .int .u8 0, .int .u8 0, .int .u8 0, .int .u8 0, .int .u8 0, .int .u8 0, .int .u8 0, .int .u8 0, .int .u8 0, .int .u8 0, .int .u8 0, .int .u8 0, .int .u8 0, .int .u8 0, .int .u8 0, .int .u8 0, .int .u8 0, .int .u8 0, .int .u8 0, .int .u8 0, .int .u8 0, .int .u8 0, .int .u8 0] 49) := ⟨_, rfl⟩
    rw [← hW] at FM B3 ⊢
    clear hW
    have M3 := hide (cellOn (cellOn M1.out B2.out (Nat.lt_of_lt_of_le HP.out B1.out.size)) B3.out (Nat.lt_of_lt_of_le (Nat.lt_of_lt_of_le HP.out B1.out.size) B2.out.size))
    obtain ⟨A3, c3, hbox3, hown3⟩ := FM.out.holds
    refine (writeString_any w2.heap.size w1.heap.size A3 len2 c3 (z2.map bt) a3 W hbox3 hown3 FM.out.hb M3.out (by omega)).mono ?_
    rintro e w4 ⟨rfl, hh4, ho4⟩
    obtain ⟨fm4, b4⟩ := FM.out.wrote hbox3 hown3 hh4 ho4
    have FM4 := hide fm4
    have B4 := hide b4
    clear fm4 b4 hh4 ho4 hbox3 hown3
    have B14 : Hid (Below w1.heap.size w1 w4) := (B2.out.trans (B3.out.mono B2.out.size)).trans B4.out
    have P4 : Hid (w1.heap.size ≤ w4.heap.size) := B14.out.size
    obtain ⟨A5, c5, hbox5, hown5⟩ := FM4.out.holds
    have HX5 := hide hbox5
    have HO5 := hide (SlIn.of_own hown5)
    clear hbox5 hown5
    go_wp2_with (first | (at_make; refine wpList_make_own _ rfl _ _ 22 rfl w4.heap.size 5 i (.int .u8 0) 1 Tryd.underlying22 hi hz0 hz1 _ _ _ (len2 + a3.size) rfl rfl (by simp) (by rw [hz2]; omega) (by unfold maxLen; omega) (Nat.le_refl _) ?_; intro w5 hown5 hgrow5; have O5 := hide hown5; have B5 := hide ((Below.refl w4.heap.size w4).grown hgrow5 (Nat.le_refl _) (fun k hk => by cases hk)); have SI := hide ((O1.out.below (B14.out.trans (B5.out.mono P4.out)) (Nat.le_refl _)).mono (Nat.le_trans P4.out B5.out.size)); have h5s := B5.out.size; clear hown5 hgrow5) | (at_builtin; refine wpList_append_in _ rfl _ _ 22 22 rfl w4.heap.size 5 5 i (.int .u8 0) 1 Tryd.underlying22 Tryd.underlying22 hi hz0 hz1 hz2 rfl _ 0 [] rfl O5.out w5.heap.size A1 len2 c1 (z2.map bt) rfl SI.out (bts_one z2) (by unfold maxLen; omega) (by omega) (by omega) ?_; intro A6 c6 w6 hown6 hgrow6; have O6 := hide (show w6.ownsRow w4.heap.size 5 1 (.slice A6 len2 c6) len2 (z2.map bt) by simpa using hown6); have B6 := hide (B5.out.grown hgrow6 B5.out.size (fun k hk => (O5.out.lt k hk).1)); have h6s := B6.out.size; clear hown6 hgrow6 O5 SI h5s) | (at_builtin; refine wpList_append_str _ rfl _ _ 22 9 rfl w4.heap.size 5 i Tryd.underlying22 Tryd.underlying9 hi hz0 hz1 hz2 _ len2 (z2.map bt) rfl O6.out a3 rfl (by unfold maxLen; omega) (by omega) (by omega) ?_; intro A7 c7 w7 hown7 hgrow7; have O7 := hide (SlIn.of_own (xs := (z2 ++ a3.data.toList).map bt) (by rw [List.map_append]; exact hown7)); have B7 := hide (B6.out.grown hgrow7 B6.out.size (fun k hk => (O6.out.lt k hk).1)); have FM7 := hide (FM4.out.below B7.out (Nat.le_refl _)); have f7 := FM7.out.cell FM7.out.ptr; have x7 : w7.cell? ⟨w2.heap.size, 0, none⟩ = some (.slice A5 (len2 + a3.size) c5) := cell_of_one ((B7.out.block _ (Array.getElem?_eq_some_iff.1 HX5.out).1).trans HX5.out); have E5 := hide ((HO5.out.below B7.out (Nat.le_refl _)).mono B7.out.size); clear hown7 hgrow7 O6 h6s) | (go_at_call 18; go_in))
    refine (eq_any A5 A7 _ c5 _ c7 (z2 ++ a3.data.toList) (z2 ++ a3.data.toList) w7 (by rw [List.map_append]; exact E5.out) O7.out (by omega) (by omega)).mono ?_
    rintro e w8 ⟨rfl, q, rfl⟩
    have hbb : ((z2 ++ a3.data.toList) == (z2 ++ a3.data.toList)) = true := by simp
    go_wp2
    go_ret
    refine ⟨by simp, below_drewN ?_ _⟩
    exact B1.out.trans ((B14.out.mono B1.out.size).trans (B7.out.mono (Nat.le_trans B1.out.size P4.out)))
  · go_enter Tryd.func4, Tryd.ntmps4
    go_wp2
    all_goals go_ret
    all_goals exact ⟨rfl, Below.refl _ _⟩
end Go.Proofs.YtmpdcljnghaekaaDoor.fnClearFlagsThenPadStringWritesPlain
