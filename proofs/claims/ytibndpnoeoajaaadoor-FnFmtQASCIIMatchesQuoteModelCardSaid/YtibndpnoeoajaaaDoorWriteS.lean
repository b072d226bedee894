/- The contract of fmtbuf.WriteString: behind the call the buffer owns what it owned and, behind that, the string's bytes. Conditions: the buffer is a row of the caller's own; the new length is at most 2147483647. -/
import Derived.Test.YtibndpnoeoajaaaDoorHolds
namespace Go.Proofs.YtibndpnoeoajaaaDoor
open Go.RowKit

set_option maxHeartbeats 1000000 in
theorem writeString_any (pb base : Nat) (A : Option Addr) (n c : Nat) (xs : List Value) (s : ByteArray) (w : World) (hbox : w.heap[pb]? = some (.cells #[.slice A n c] 28 (0, 0))) (hown : w.ownsRow base 5 1 (.slice A n c) n xs) (hbase : base ≤ w.heap.size)
    (hM : w.cell? ⟨0, 0, none⟩ = some (.int .i64 2147483647)) (hlen : n + s.size ≤ 2147483647) :
    Calls Tryd.prog 18 #[.pointer (some ⟨pb, 0, none⟩), .string s] w (Wrote base 5 28 pb (n + s.size) (Value.ownBlock (.slice A n c)) (xs ++ s.data.toList.map bt) w) := by
  obtain ⟨i, hi, hz0, hz1, hz2⟩ := info_parts info_u8
  have hlt : pb < w.heap.size := (Array.getElem?_eq_some_iff.1 hbox).1
  have hcell := cell_of_one hbox
  have HB := hide hbox
  have HO := hide hown
  clear hbox hown
  have hsum : IntKind.i64.wrap ((n : Int) + (s.size : Int)) = (n : Int) + (s.size : Int) := IntWalk.i64_in _ (by omega)
  have hd : decide ((2147483647 : Int) < (n : Int) + (s.size : Int)) = false := by simp; omega
  go_enter Tryd.func18, Tryd.ntmps18
  go_wp2_with fail
  go_quiet (fail)
  clear hsum
  go_wp2_with (at_builtin; refine wpList_append_str _ rfl _ _ 28 9 rfl base 5 i Tryd.underlying28 Tryd.underlying9 hi hz0 hz1 hz2 _ n xs rfl HO.out s rfl (by unfold maxLen; omega) (by omega) (by simp; omega) ?_; intro A1 c1 w1 hown1 hgrow1; have R := box_stored (by decide) HB.out HO.out (show w.grownBy w1 _ from ⟨hgrow1.os, hgrow1.tape, hgrow1.output, hgrow1.size, hgrow1.block⟩) hown1; have r1 := R.1; have r2 := R.2.1; have HR := hide R.2.2; clear R hown1 hgrow1)
  go_end0
  exact ⟨rfl, HR.out.1, HR.out.2⟩
end Go.Proofs.YtibndpnoeoajaaaDoor
