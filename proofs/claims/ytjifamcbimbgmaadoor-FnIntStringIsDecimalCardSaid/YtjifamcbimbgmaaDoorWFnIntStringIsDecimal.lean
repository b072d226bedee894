/- The law FnIntStringIsDecimal walked: the call returns true and writes nothing that was there. Its conditions: none beyond the arguments' types. -/
import Derived.Test.YtjifamcbimbgmaaDoorProg
import Derived.Test.YtjifamcbimbgmaaDoorBase
import Derived.Test.YtjifamcbimbgmaaDoorRows
import Derived.Handy
import Derived.Outline
import Derived.WalkLawsBesides
import Derived.WalkSpells
import Derived.Deep.QuietTactic
import Derived.BigQuiet
import Derived.RegionTactic
import Derived.ChangeAlike
import Derived.Test.YtjifamcbimbgmaaDoorLaid
import Derived.Test.YtjifamcbimbgmaaDoorDec
import Derived.Test.YtjifamcbimbgmaaDoorShelf
import Derived.MakeChecks
import Derived.Lib.AppendIntMem
namespace Go.Proofs.YtjifamcbimbgmaaDoor.fnIntStringIsDecimal
open Go.RowKit Go.Proofs.YtjifamcbimbgmaaDoor
/-- The table of the powers of ten, as the row lists it. -/
theorem tab {w : World} (hL : laidMetH Tryd.prog Rows.fnIntStringIsDecimalRow.laid w) : Lib.TabIs Tryd.prog w "internal/strconv.uint64pow10" .u64 Lib.pow10Tab := by
  rw [MakeChecks.laidMetH_plain _ _ _ (by kernel_rfl)] at hL
  obtain ⟨ps, hl, _⟩ := hL
  obtain ⟨g', t', cs, fuel, p, hg, ht, hv, hd⟩ := laidVars_mem _ ps hl (n := "internal/strconv.uint64pow10") (d := Lib.tabData .u64 Lib.pow10Tab) (by
    have e : (Lib.tabData .u64 Lib.pow10Tab : DataW Unit) = Rows.laid_internal_strconv_uint64pow10 := rfl
    rw [e]
    simp [Rows.fnIntStringIsDecimalRow])
  obtain rfl : 0 = g' := Option.some.inj ((show Tryd.prog.globalNamed "internal/strconv.uint64pow10" = some 0 by kernel_rfl).symm.trans hg)
  obtain rfl : 45 = t' := Option.some.inj ((show (Tryd.prog.globals[0]?).map (·.type) = some 45 by kernel_rfl).symm.trans ht)
  unfold Lib.TabIs
  rw [hv, ← Lib.cells_of_tab Tryd.underlying45 Tryd.underlying30 (by kernel_rfl) (by kernel_rfl) hd]
theorem tabOn {w w' : World} (h : Lib.TabIs Tryd.prog w "internal/strconv.uint64pow10" .u64 Lib.pow10Tab) (hb : Below w.heap.size w w') : Lib.TabIs Tryd.prog w' "internal/strconv.uint64pow10" .u64 Lib.pow10Tab := Lib.tabBelow_of_tabIs h w' hb
set_option linter.unusedVariables false in
set_option maxHeartbeats 1000000 in
theorem walk (a0 : Int) (w : World) (w0 : (Lit.int .i64 a0).wf = true) (hL : laidMetH Tryd.prog Rows.fnIntStringIsDecimalRow.laid w) :
    Calls Tryd.prog 3 #[.int .i64 a0] w fun e w' => e = .returned (.bool true) ∧ Below w.heap.size w w' := by
  have hb := bounds_i64 w0
  have HT := hide (tab hL)
  clear hL
  go_enter Tryd.func3, Tryd.ntmps3
  go_wp2_with (go_at_call 5; go_in)
  have B1 := hide ((Below.refl w.heap.size w).alloc (Nat.le_refl _) (.cells #[.int .i64 a0] 26))
  refine (Tryd.strconv_FormatInt_10 a0 hb.1 hb.2 _ (tabOn HT.out ((Below.refl _ _).alloc (Nat.le_refl _) _))).mono ?_
  rintro e w1 ⟨rfl, k, os, rfl⟩
  go_wp2_with fail
  refine (dec_any a0 _ hb.1 hb.2).mono ?_
  rintro e w2 ⟨rfl, hb2⟩
  have B2 := hide hb2
  clear hb2
  go_wp2
  go_ret
  have BG : Below w.heap.size w _ := B1.out.trans (Lib.below_grow w.heap.size (w.alloc (.cells #[.int .i64 a0] 26)) B1.out.size k os)
  exact ⟨rfl, BG.trans (B2.out.mono BG.size)⟩
end Go.Proofs.YtjifamcbimbgmaaDoor.fnIntStringIsDecimal
