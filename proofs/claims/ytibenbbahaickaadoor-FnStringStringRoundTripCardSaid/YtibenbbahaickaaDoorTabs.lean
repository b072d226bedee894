/- What the row's list of package-level variables gives: the four tables of strconv.IsPrint and the two of unicode/utf8 lie as Go's own text lays them; and they stay where nothing below the heap's end turns. -/
import Derived.Test.YtibenbbahaickaaDoorProg
import Derived.Test.YtibenbbahaickaaDoorShelf
import Derived.PinnedBridge
import Derived.Lib.LaidU8
import Derived.Below
namespace Go.Proofs.YtibenbbahaickaaDoor
open Go.Shelf

/-- The six tables. -/
structure Tabs (w : World) : Prop where
  pr : Lib.PrintTabsAt 2 3 4 5 Lib.goPrintTabs w
  u8 : Lib.Utf8Tabs 0 1 w

theorem tabs_of {laid : List (String × DataW Unit)} {w : World} (hL : laidMet Tryd.prog laid w) (hacc : ("unicode/utf8.acceptRanges", Lib.acceptData) ∈ laid) (hfi : ("unicode/utf8.first", Pinned.utf8First) ∈ laid)
    (h16 : ("strconv.isPrint16", Pinned.isPrint16) ∈ laid) (hn16 : ("strconv.isNotPrint16", Pinned.isNotPrint16) ∈ laid) (h32 : ("strconv.isPrint32", Pinned.isPrint32) ∈ laid) (hn32 : ("strconv.isNotPrint32", Pinned.isNotPrint32) ∈ laid) : Tabs w where
  pr := printTabs_of_reads (ρ := Tryd.lays177_ren) { Tryd.lays177 with } ⟨by kernel_rfl, by kernel_rfl, by kernel_rfl, by kernel_rfl, by kernel_rfl, by kernel_rfl, by kernel_rfl, by kernel_rfl, by kernel_rfl, by kernel_rfl⟩
    (Pinned.isPrint16_eq ▸ Lib.laidMet.reads hL h16) (Pinned.isNotPrint16_eq ▸ Lib.laidMet.reads hL hn16) (Pinned.isPrint32_eq ▸ Lib.laidMet.reads hL h32) (Pinned.isNotPrint32_eq ▸ Lib.laidMet.reads hL hn32)
  u8 := utf8Tabs_of_reads (ρ := Tryd.lays177_ren) { Tryd.lays177 with } ⟨by kernel_rfl, by kernel_rfl, by kernel_rfl, by kernel_rfl, by kernel_rfl, by kernel_rfl, by kernel_rfl⟩
    (Pinned.utf8First_eq ▸ Lib.laidMet.reads hL hfi) (Lib.laidMet.reads hL hacc)

theorem Tabs.below {w w' : World} (h : Tabs w) (hb : RowKit.Below w.heap.size w w') : Tabs w' := ⟨printTabs_below h.pr hb, Utf8Tabs_below h.u8 hb⟩
end Go.Proofs.YtibenbbahaickaaDoor
