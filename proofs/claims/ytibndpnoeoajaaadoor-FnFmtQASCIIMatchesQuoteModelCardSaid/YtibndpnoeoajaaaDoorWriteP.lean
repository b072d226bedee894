/- The contract of fmtbuf.Write: behind the call the buffer owns what it owned and, behind that, the bytes that were written. Conditions: the buffer is a row of the caller's own; the new length is at most 2147483647. -/
import Derived.Test.YtibndpnoeoajaaaDoorHolds
namespace Go.Proofs.YtibndpnoeoajaaaDoor
open Go.RowKit

set_option maxHeartbeats 1000000 in
theorem write_any (pb base : Nat) (A A' : Option Addr) (n c m d : Nat) (xs : List Value) (ys : List UInt8) (w : World) (hbox : w.heap[pb]? = some (.cells #[.slice A n c] 28 (0, 0))) (hown : w.ownsRow base 5 1 (.slice A n c) n xs) (hbase : base ≤ w.heap.size)
    (hS : SlIn w w.heap.size A' m d (ys.map bt)) (hM : w.cell? ⟨0, 0, none⟩ = some (.int .i64 2147483647)) (hlen : n + m ≤ 2147483647) :
    Calls Tryd.prog 21 #[.pointer (some ⟨pb, 0, none⟩), .slice A' m d] w (Wrote base 5 28 pb (n + m) (Value.ownBlock (.slice A n c)) (xs ++ ys.map bt) w) := by
  obtain ⟨i, hi, hz0, hz1, hz2⟩ := info_parts info_u8
  have hlt : pb < w.heap.size := (Array.getElem?_eq_some_iff.1 hbox).1
  have hcell := cell_of_one hbox
  have HB := hide hbox
  have HO := hide hown
  have HS := hide hS
  clear hbox hown hS
  have hsum : IntKind.i64.wrap ((n : Int) + (m : Int)) = (n : Int) + (m : Int) := IntWalk.i64_in _ (by omega)
  have hd : decide ((2147483647 : Int) < (n : Int) + (m : Int)) = false := by simp; omega
  go_enter Tryd.func21, Tryd.ntmps21
  go_wp2_with fail
  go_quiet (fail)
  clear hsum
  go_wp2_with (at_builtin; refine wpList_append_in _ rfl _ _ 28 24 rfl base 5 5 i (.int .u8 0) 1 Tryd.underlying28 Tryd.underlying24 hi hz0 hz1 hz2 rfl _ n xs rfl HO.out w.heap.size A' m d (ys.map bt) rfl (HS.out.drewN _) (bts_one ys) (by unfold maxLen; omega) (by omega) (by simp; omega) ?_; intro A1 c1 w1 hown1 hgrow1; have R := box_stored (by decide) HB.out HO.out (show w.grownBy w1 _ from ⟨hgrow1.os, hgrow1.tape, hgrow1.output, hgrow1.size, hgrow1.block⟩) hown1; have r1 := R.1; have r2 := R.2.1; have HR := hide R.2.2; clear R hown1 hgrow1)
  go_end0
  exact ⟨rfl, HR.out.1, HR.out.2⟩

end Go.Proofs.YtibndpnoeoajaaaDoor
