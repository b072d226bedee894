/- The contract of the exported shim that writes a slice into a buffer of its own. Conditions: the buffer handed in is a row of the caller's own; the new length is at most 2147483647. -/
import Derived.Test.YtbdniedaofanpaaDoorWriteP
namespace Go.Proofs.YtbdniedaofanpaaDoor
open Go.RowKit

set_option maxHeartbeats 1000000 in
theorem zzWrite_any (base : Nat) (A A' : Option Addr) (n c m d : Nat) (xs : List Value) (ys : List UInt8) (w : World) (hown : w.ownsRow base 5 1 (.slice A n c) n xs) (hb : base ≤ w.heap.size)
    (hS : SlIn w w.heap.size A' m d (ys.map bt)) (hM : w.cell? ⟨0, 0, none⟩ = some (.int .i64 2147483647)) (hlen : n + m ≤ 2147483647) :
    Calls Tryd.prog 15 #[.slice A n c, .slice A' m d] w (Put base (Value.ownBlock (.slice A n c)) 5 (n + m) (xs ++ ys.map bt) w) := by
  have HO := hide hown
  have HS := hide hS
  have HM := hide hM
  clear hown hS hM
  go_enter Tryd.func15, Tryd.ntmps15
  go_wp2_with fail
  refine (write_any w.heap.size base A A' n c m d xs ys (w.alloc (.cells #[.slice A n c] 35)) (heap_alloc_new w _) (HO.out.alloc _) (by simp; omega) ((HS.out.alloc (Nat.le_refl _) _).mono (by simp)) (by rw [World.cell?_alloc_lt _ _ _ (World.block_lt_of_cell? w _ HM.out)]; exact HM.out) hlen).mono ?_
  rintro e w1 ⟨rfl, ⟨A1, c1, hbox, hown⟩, hbel⟩
  have hc := cell_of_one hbox
  have HO1 := hide hown
  have HB1 := hide hbel
  clear hbox hown hbel HO HS HM
  go_wp2
  go_ret
  exact ⟨A1, c1, rfl, HO1.out, Only.grown HB1.out⟩

end Go.Proofs.YtbdniedaofanpaaDoor
