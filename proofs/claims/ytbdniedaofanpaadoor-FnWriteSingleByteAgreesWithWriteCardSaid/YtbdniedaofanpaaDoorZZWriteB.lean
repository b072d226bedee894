/- The contract of the exported shim that writes one byte into a buffer of its own. Conditions: the buffer handed in is a row of the caller's own; its length is below 2147483647. -/
import Derived.Test.YtbdniedaofanpaaDoorWriteB
namespace Go.Proofs.YtbdniedaofanpaaDoor
open Go.RowKit

set_option maxHeartbeats 1000000 in
theorem zzWriteByte_any (base : Nat) (A : Option Addr) (n c : Nat) (xs : List Value) (x : UInt8) (w : World) (hown : w.ownsRow base 5 1 (.slice A n c) n xs) (hb : base ≤ w.heap.size)
    (hM : w.cell? ⟨0, 0, none⟩ = some (.int .i64 2147483647)) (hlen : n < 2147483647) :
    Calls Tryd.prog 13 #[.slice A n c, .int .u8 (x.toNat : Int)] w (Put base (Value.ownBlock (.slice A n c)) 5 (n + 1) (xs ++ [bt x]) w) := by
  have HO := hide hown
  have HM := hide hM
  clear hown hM
  go_enter Tryd.func13, Tryd.ntmps13
  go_wp2_with fail
  refine (writeByte_any w.heap.size base A n c xs x (w.alloc (.cells #[.slice A n c] 35)) (heap_alloc_new w _) (HO.out.alloc _) (by simp; omega) (by rw [World.cell?_alloc_lt _ _ _ (World.block_lt_of_cell? w _ HM.out)]; exact HM.out) hlen).mono ?_
  rintro e w1 ⟨rfl, ⟨A1, c1, hbox, hown⟩, hbel⟩
  have hc := cell_of_one hbox
  have HO1 := hide hown
  have HB1 := hide hbel
  clear hbox hown hbel HO HM
  go_wp2
  go_ret
  exact ⟨A1, c1, rfl, HO1.out, Only.grown HB1.out⟩
end Go.Proofs.YtbdniedaofanpaaDoor
