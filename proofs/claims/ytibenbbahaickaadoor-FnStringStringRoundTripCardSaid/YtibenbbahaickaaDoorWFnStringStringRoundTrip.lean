/- The law FnStringStringRoundTrip walked: the call returns true and writes nothing that was there. Its conditions: none beyond the arguments' types. -/
import Derived.Test.YtibenbbahaickaaDoorProg
import Derived.Test.YtibenbbahaickaaDoorBase
import Derived.Test.YtibenbbahaickaaDoorRows
import Derived.Handy
import Derived.Outline
import Derived.WalkLawsBesides
import Derived.WalkSpells
import Derived.Deep.QuietTactic
import Derived.BigQuiet
import Derived.RegionTactic
import Derived.ChangeAlike
import Derived.Test.YtibenbbahaickaaDoorTabs
import Derived.Test.YtibenbbahaickaaDoorUnq2
import Derived.Test.YtibenbbahaickaaDoorSameB
import Derived.Test.YtibenbbahaickaaDoorShelf
import Derived.MakeChecks
namespace Go.Proofs.YtibenbbahaickaaDoor.fnStringStringRoundTrip
open Go.RowKit Go.Proofs.YtibenbbahaickaaDoor
theorem tab {w : World} (hL : laidMetH Tryd.prog Rows.fnStringStringRoundTripRow.laid w) : Tabs w := by
  rw [MakeChecks.laidMetH_plain _ _ _ (by kernel_rfl)] at hL
  have ea : (Lib.acceptData : DataW Unit) = Rows.laid_unicode_utf8_acceptRanges := rfl
  refine tabs_of hL (by rw [ea]; simp [Rows.fnStringStringRoundTripRow]) ?_ ?_ ?_ ?_ ?_
  · simp [Rows.fnStringStringRoundTripRow, Rows.laid_unicode_utf8_first]
  · simp [Rows.fnStringStringRoundTripRow, Rows.laid_strconv_isPrint16]
  · simp [Rows.fnStringStringRoundTripRow, Rows.laid_strconv_isNotPrint16]
  · simp [Rows.fnStringStringRoundTripRow, Rows.laid_strconv_isPrint32]
  · simp [Rows.fnStringStringRoundTripRow, Rows.laid_strconv_isNotPrint32]
/-- strconv.Quote, as the walk uses it. -/
theorem quote_any (s : ByteArray) (w W : World) (hs : s.size ≤ 1099511627776) (ht : Tabs w) (hb : Below w.heap.size w W) :
    Calls Tryd.prog 8 #[.string s] W fun e w' => ∃ S, e = .returned (.string S) ∧ Quoted S s.data.toList ∧ Below W.heap.size W w' := by
  have hT : Tabs W := ht.below hb
  refine (Tryd.strconv_Quote Lib.goPrintTabs s W (by omega) hT.pr hT.u8).mono ?_
  rintro e w1 ⟨rfl, hb1⟩
  exact ⟨_, rfl, quoted_of _ s, hb1⟩
set_option linter.unusedVariables false in
set_option maxHeartbeats 1000000 in
theorem walk (a0 : ByteArray) (w : World) (w0 : a0.size ≤ maxLen) (hL : laidMetH Tryd.prog Rows.fnStringStringRoundTripRow.laid w) :
    Calls Tryd.prog 3 #[.string a0] w fun e w' => e = .returned (.bool true) ∧ Below w.heap.size w w' := by
  have HT := hide (tab hL)
  clear hL
  go_enter Tryd.func3, Tryd.ntmps3
  go_wp2_with (first | (go_at_call 4; go_in) | (go_at_call 5; go_in))
  · go_ret
    exact ⟨rfl, Below.refl _ _⟩
  · go_ret
    exact ⟨rfl, Below.refl _ _⟩
  · rename_i _ hs1
    refine (quote_any a0 w _ (by omega) HT.out ((Below.refl _ _).alloc (Nat.le_refl _) _)).mono ?_
    rintro e w1 ⟨Z, rfl, hq, hb1⟩
    have hb0 := (Below.refl w.heap.size w).alloc (Nat.le_refl _) (.cells #[.string a0, .slice none 0 0] 28)
    have B1 := hide (hb0.trans (hb1.mono hb0.size))
    have hlo := hq.lo
    have hhi := hq.hi
    rw [bsize] at hlo hhi
    have HQ := hide hq
    have cU := unq_any Z a0.data.toList hq (by omega) w1
    have hz2 : IntKind.i64.wrap ((a0.size : Int) + 2) = (a0.size : Int) + 2 := IntWalk.i64_in _ (by omega)
    have hz4 : IntKind.i64.wrap (4 * (a0.size : Int) + 2) = 4 * (a0.size : Int) + 2 := IntWalk.i64_in _ (by omega)
    have hz3 : IntKind.i64.wrap (4 * (a0.size : Int)) = 4 * (a0.size : Int) := IntWalk.i64_in _ (by omega)
    have l1 : ¬ ((Z.size : Int) < (a0.size : Int) + 2) := by omega
    have l2 : ¬ (4 * (a0.size : Int) + 2 < (Z.size : Int)) := by omega
    clear hb1 hb0 hq
    go_wp2_with fail
    refine cU.mono ?_
    rintro e w2 ⟨v, rfl, hb2⟩
    obtain ⟨A, c, rfl, hin⟩ := own_inF hb2.1
    have B2 := hide hb2.2.1
    have cS := same_any A _ c a0 w2 hin (by rw [bsize]; omega)
    clear hb2 hin cU
    go_wp2_with fail
    refine cS.mono ?_
    rintro e w3 ⟨rfl, q, rfl⟩
    go_wp2
    go_ret
    have B3 := B1.out.trans (B2.out.mono B1.out.size)
    exact ⟨rfl, B3.os, B3.tape, B3.output, B3.size, B3.block⟩
end Go.Proofs.YtibenbbahaickaaDoor.fnStringStringRoundTrip
