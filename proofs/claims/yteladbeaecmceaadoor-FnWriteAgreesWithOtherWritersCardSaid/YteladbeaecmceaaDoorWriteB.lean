/- The contract of fmtbuf.WriteSingleByte: behind the call the buffer owns what it owned and, behind that, the byte. Conditions: the buffer is a row of the caller's own; its length is below 2147483647. -/
import Derived.Test.YteladbeaecmceaaDoorHolds
namespace Go.Proofs.YteladbeaecmceaaDoor
open Go.RowKit

set_option maxHeartbeats 1000000 in
theorem writeByte_any (R : List Value) (pb base : Nat) (A : Option Addr) (n c : Nat) (xs : List Value) (x : UInt8) (w : World) (hbox : w.heap[pb]? = some (.cells (.slice A n c :: R).toArray 45 (0, 0))) (hown : w.ownsRow base 5 1 (.slice A n c) n xs) (hbase : base ≤ w.heap.size)
    (hM : w.cell? ⟨0, 0, none⟩ = some (.int .i64 2147483647)) (hlen : n < 2147483647) :
    Calls Tryd.prog 15 #[.pointer (some ⟨pb, 0, none⟩), .int .u8 (x.toNat : Int)] w (Wrote R base 5 45 pb (n + 1) (Value.ownBlock (.slice A n c)) (xs ++ [bt x]) w) := by
  obtain ⟨i, hi, hz0, hz1, hz2⟩ := info_parts info_u8
  have hlt : pb < w.heap.size := (Array.getElem?_eq_some_iff.1 hbox).1
  have hcell := box_cell hbox
  have HB := hide hbox
  have HO := hide hown
  clear hbox hown
  have hd : decide ((2147483647 : Int) ≤ (n : Int)) = false := by simp; omega
  go_enter Tryd.func15, Tryd.ntmps15
  go_wp2_with fail
  go_quiet (fail)
  go_wp2_with (at_builtin; refine wpList_append_in _ rfl _ _ 35 35 rfl base 5 5 i (.int .u8 0) 1 Tryd.underlying35 Tryd.underlying35 hi hz0 hz1 hz2 rfl _ n xs rfl (HO.out.alloc _) (w.heap.size + 1) (some ⟨w.heap.size, 0, none⟩) 1 1 [bt x] rfl ((SlIn.one w _ _).drewN _) (bts_one [x]) (by unfold maxLen; omega) (by omega) (by simp; omega) ?_; intro A1 c1 w1 hown1 hgrow1; have R := box_stored (w := w.alloc (.cells #[bt x] 5)) (by decide) ((heap_alloc_old w _ hlt).trans HB.out) (HO.out.alloc _) (show (w.alloc (.cells #[bt x] 5)).grownBy w1 _ from ⟨hgrow1.os, hgrow1.tape, hgrow1.output, hgrow1.size, hgrow1.block⟩) hown1; have r1 := R.1; have r2 := R.2.1; have HR := hide R.2.2; clear R hown1 hgrow1)
  go_end0
  exact ⟨rfl, HR.out.1, Only.ahead HR.out.2⟩
end Go.Proofs.YteladbeaecmceaaDoor
