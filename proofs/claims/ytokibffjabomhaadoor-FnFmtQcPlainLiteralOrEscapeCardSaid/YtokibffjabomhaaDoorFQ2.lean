/- The shim that formats a rune through a new formatter, by a contract: what comes back owns the prefix and, behind it, the quoted rune in its field. Conditions: as for fmtQc. -/
import Derived.Test.YtokibffjabomhaaDoorFQ
import Derived.RegionTactic
import Derived.ChangeAlike
set_option linter.unusedSimpArgs false
namespace Go.Proofs.YtokibffjabomhaaDoor
open Go.RowKit
theorem zeroF (w : World) : (zeroValue 40).run Tryd.prog w = .ok (.agg #[.pointer none, .bool false, .bool false, .bool false, .bool false, .bool false, .bool false, .bool false, .bool false, .bool false, .bool false, .bool false, .bool false, .int .i64 0, .int .i64 0, .int .u8 0, .int .u8 0, .int .u8 0, .int .u8 0, .int .u8 0, .int .u8 0, .int .u8 0, .int .u8 0, .int .u8 0, .int .u8 0, .int .u8 0, .int .u8 0, .int .u8 0, .int .u8 0, .int .u8 0, .int .u8 0, .int .u8 0, .int .u8 0, .int .u8 0, .int .u8 0, .int .u8 0, .int .u8 0, .int .u8 0, .int .u8 0, .int .u8 0, .int .u8 0, .int .u8 0, .int .u8 0, .int .u8 0, .int .u8 0, .int .u8 0, .int .u8 0, .int .u8 0, .int .u8 0, .int .u8 0, .int .u8 0, .int .u8 0, .int .u8 0, .int .u8 0, .int .u8 0, .int .u8 0, .int .u8 0, .int .u8 0, .int .u8 0, .int .u8 0, .int .u8 0, .int .u8 0, .int .u8 0, .int .u8 0, .int .u8 0, .int .u8 0, .int .u8 0, .int .u8 0, .int .u8 0, .int .u8 0, .int .u8 0, .int .u8 0, .int .u8 0, .int .u8 0, .int .u8 0, .int .u8 0, .int .u8 0, .int .u8 0, .int .u8 0, .int .u8 0, .int .u8 0, .int .u8 0, .int .u8 0]) w := by kernel_rfl
attribute [local go_sem] zeroF
set_option maxRecDepth 100000 in
set_option maxHeartbeats 16000000 in
theorem zzfmt_any (T : Lib.PrintTabs) (base : Nat) (A : Option Addr) (n c0 : Nat) (xs : List Value) (asc wp mi z : Bool) (wd c : Int) (w : World) (ho : w.ownsRow base 5 1 (.slice A n c0) n xs) (hb : base ≤ w.heap.size)
    (hM : w.cell? ⟨0, 0, none⟩ = some (.int .i64 2147483647)) (h0 : 0 < base) (hn : n ≤ 1048576) (hw0 : -65536 ≤ wd) (hw1 : wd ≤ 65536) (hone : ∀ v ∈ xs, v.oneCell' = true)
    (hT : TabsFrom T base w) (hc0 : 0 ≤ c) (hc1 : c ≤ 18446744073709551615) :
    Calls Tryd.prog 7 #[.slice A n c0, .bool asc, .bool mi, .bool z, .bool wp, .int .i64 wd, .int .u64 c] w (Grew base 5 (n + (room wp wd (Lib.runeCount ⟨(qB T asc c).toArray⟩) + (qB T asc c).length)) (xs ++ inField mi z (room wp wd (Lib.runeCount ⟨(qB T asc c).toArray⟩)) ((qB T asc c).map bt)) w) := by
  have HO := hide ho
  have HBS := hide hb
  have HM := hide hM
  have HONE := hide hone
  have HTT := hide hT
  clear ho hb hM hone hT
  go_enter Tryd.func7, Tryd.ntmps7
  go_wp2_with (first | (go_at_call 15; go_in) | (go_at_call 19; go_in))
  have FM4 := hide (Fm.new HO.out HBS.out (F := #[.pointer (some ⟨w.heap.size, 0, none⟩), .bool wp, .bool false, .bool mi, .bool asc, .bool false, .bool false, .bool z, .bool false, .bool false, .bool false, .bool false, .bool false, .int .i64 wd, .int .i64 0, .int .u8 0, .int .u8 0, .int .u8 0, .int .u8 0, .int .u8 0, .int .u8 0, .int .u8 0, .int .u8 0, .int .u8 0, .int .u8 0, .int .u8 0, .int .u8 0, .int .u8 0, .int .u8 0, .int .u8 0, .int .u8 0, .int .u8 0, .int .u8 0, .int .u8 0, .int .u8 0, .int .u8 0, .int .u8 0, .int .u8 0, .int .u8 0, .int .u8 0, .int .u8 0, .int .u8 0, .int .u8 0, .int .u8 0, .int .u8 0, .int .u8 0, .int .u8 0, .int .u8 0, .int .u8 0, .int .u8 0, .int .u8 0, .int .u8 0, .int .u8 0, .int .u8 0, .int .u8 0, .int .u8 0, .int .u8 0, .int .u8 0, .int .u8 0, .int .u8 0, .int .u8 0, .int .u8 0, .int .u8 0, .int .u8 0, .int .u8 0, .int .u8 0, .int .u8 0, .int .u8 0, .int .u8 0, .int .u8 0, .int .u8 0, .int .u8 0, .int .u8 0, .int .u8 0, .int .u8 0, .int .u8 0, .int .u8 0, .int .u8 0, .int .u8 0, .int .u8 0, .int .u8 0, .int .u8 0, .int .u8 0]) rfl)
  have BW4 : Hid (Below w.heap.size w _) := (((Below.refl w.heap.size w).alloc (Nat.le_refl _) (.cells #[.slice A n c0] 33)).alloc (by simp) (.cells #[.pointer (some ⟨w.heap.size, 0, none⟩), .bool wp, .bool false, .bool mi, .bool asc, .bool false, .bool false, .bool z, .bool false, .bool false, .bool false, .bool false, .bool false, .int .i64 wd, .int .i64 0, .int .u8 0, .int .u8 0, .int .u8 0, .int .u8 0, .int .u8 0, .int .u8 0, .int .u8 0, .int .u8 0, .int .u8 0, .int .u8 0, .int .u8 0, .int .u8 0, .int .u8 0, .int .u8 0, .int .u8 0, .int .u8 0, .int .u8 0, .int .u8 0, .int .u8 0, .int .u8 0, .int .u8 0, .int .u8 0, .int .u8 0, .int .u8 0, .int .u8 0, .int .u8 0, .int .u8 0, .int .u8 0, .int .u8 0, .int .u8 0, .int .u8 0, .int .u8 0, .int .u8 0, .int .u8 0, .int .u8 0, .int .u8 0, .int .u8 0, .int .u8 0, .int .u8 0, .int .u8 0, .int .u8 0, .int .u8 0, .int .u8 0, .int .u8 0, .int .u8 0, .int .u8 0, .int .u8 0, .int .u8 0, .int .u8 0, .int .u8 0, .int .u8 0, .int .u8 0, .int .u8 0, .int .u8 0, .int .u8 0, .int .u8 0, .int .u8 0, .int .u8 0, .int .u8 0, .int .u8 0, .int .u8 0, .int .u8 0, .int .u8 0, .int .u8 0, .int .u8 0, .int .u8 0, .int .u8 0, .int .u8 0] 40))
  obtain ⟨W4, hW⟩ : ∃ W4 : World, W4 = (w.alloc (.cells #[.slice A n c0] 33)).alloc (.cells #[.pointer (some ⟨w.heap.size, 0, none⟩), .bool wp, .bool false, .bool mi, .bool asc, .bool false, .bool false, .bool z, .bool false, .bool false, .bool false, .bool false, .bool false, .int .i64 wd, .int .i64 0, .int .u8 0, .int .u8 0, .int .u8 0, .int .u8 0, .int .u8 0, .int .u8 0, .int .u8 0, .int .u8 0, .int .u8 0, .int .u8 0, .int .u8 0, .int .u8 0, .int .u8 0, .int .u8 0, .int .u8 0, .int .u8 0, .int .u8 0, .int .u8 0, .int .u8 0, .int .u8 0, .int .u8 0, .int .u8 0, .int .u8 0, .int .u8 0, .int .u8 0, .int .u8 0, .int .u8 0, .int .u8 0, .int .u8 0, .int .u8 0, .int .u8 0, .int .u8 0, .int .u8 0, .int .u8 0, .int .u8 0, .int .u8 0, .int .u8 0, .int .u8 0, .int .u8 0, .int .u8 0, .int .u8 0, .int .u8 0, .int .u8 0, .int .u8 0, .int .u8 0, .int .u8 0, .int .u8 0, .int .u8 0, .int .u8 0, .int .u8 0, .int .u8 0, .int .u8 0, .int .u8 0, .int .u8 0, .int .u8 0, .int .u8 0, .int .u8 0, .int .u8 0, .int .u8 0, .int .u8 0, .int .u8 0, .int .u8 0, .int .u8 0, .int .u8 0, .int .u8 0, .int .u8 0, .int .u8 0, .int .u8 0] 40) := ⟨_, rfl⟩
  rw [← hW] at FM4 BW4 ⊢
  clear hW
  have BB : Hid (Below base w W4) := BW4.out.mono HBS.out
  refine (fmtQc_any T _ _ base n _ xs asc wp mi z wd c W4 FM4.out rfl rfl rfl rfl rfl rfl ((BB.out.cell (p := ⟨0, 0, none⟩) h0).trans HM.out) h0 (Nat.le_succ_of_le HBS.out) HBS.out hn hw0 hw1 HONE.out (fun w' h => HTT.out w' (BB.out.trans h)) hc0 hc1).mono ?_
  rintro e w5 ⟨rfl, ⟨F', fm5⟩, b5⟩
  obtain ⟨Ax, cx, hbx, hox⟩ := fm5.holds
  have x1 := cell_of_one hbx
  have HX := hide hox
  have B5 := hide (BB.out.trans b5)
  clear fm5 b5 hbx hox
  go_wp2
  go_ret
  exact ⟨_, _, rfl, HX.out, B5.out⟩
end Go.Proofs.YtokibffjabomhaaDoor
