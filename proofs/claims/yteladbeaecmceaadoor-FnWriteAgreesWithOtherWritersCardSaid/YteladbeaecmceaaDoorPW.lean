/- The printer's three writers: each appends to the printer's buffer and tells the length and no error. Conditions: the buffer is a row of the caller's own; the new length is at most 2147483647. -/
import Derived.Test.YteladbeaecmceaaDoorWriteP
import Derived.Test.YteladbeaecmceaaDoorWriteS
import Derived.Test.YteladbeaecmceaaDoorWriteB
import Derived.Outline
namespace Go.Proofs.YteladbeaecmceaaDoor
open Go.RowKit

def Told (k : Int) (R : List Value) (base pb n : Nat) (row : Option Nat) (xs : List Value) (w : World) (e : Ending) (w' : World) : Prop :=
  e = .returned (.tuple #[.int .i64 k, .nilIface]) ∧ Holds R base 5 45 pb n xs w' ∧ Only pb row w w'

set_option maxHeartbeats 1000000 in
theorem pwrite (R : List Value) (pb base : Nat) (A : Option Addr) (n c : Nat) (xs : List Value) (A' : Option Addr) (m d : Nat) (ys : List UInt8) (w : World) (hbox : w.heap[pb]? = some (.cells (.slice A n c :: R).toArray 45 (0, 0))) (hown : w.ownsRow base 5 1 (.slice A n c) n xs) (hbase : base ≤ w.heap.size)
    (hS : SlIn w w.heap.size A' m d (ys.map bt)) (hM : w.cell? ⟨0, 0, none⟩ = some (.int .i64 2147483647)) (hlen : n + m ≤ 2147483647) :
    Calls Tryd.prog 7 #[.pointer (some ⟨pb, 0, none⟩), .slice A' m d] w (Told (m : Nat) R base pb (n + m) (Value.ownBlock (.slice A n c)) (xs ++ ys.map bt) w) := by
  have HB := hide hbox
  have HO := hide hown
  clear hbox hown
  go_enter Tryd.func7, Tryd.ntmps7
  go_wp2_with fail
  refine (write_any R pb base A A' n c m d xs ys w HB.out HO.out hbase hS hM hlen).mono ?_
  rintro e w' ⟨rfl, hh, ho⟩
  have HH := hide hh
  have HOn := hide ho
  clear hh ho
  go_wp2
  go_ret2
  exact ⟨rfl, HH.out, HOn.out⟩

set_option maxHeartbeats 1000000 in
theorem pwriteString (R : List Value) (pb base : Nat) (A : Option Addr) (n c : Nat) (xs : List Value) (s : ByteArray) (w : World) (hbox : w.heap[pb]? = some (.cells (.slice A n c :: R).toArray 45 (0, 0))) (hown : w.ownsRow base 5 1 (.slice A n c) n xs) (hbase : base ≤ w.heap.size)
    (hM : w.cell? ⟨0, 0, none⟩ = some (.int .i64 2147483647)) (hlen : n + s.size ≤ 2147483647) :
    Calls Tryd.prog 8 #[.pointer (some ⟨pb, 0, none⟩), .string s] w (Told (s.size : Nat) R base pb (n + s.size) (Value.ownBlock (.slice A n c)) (xs ++ s.data.toList.map bt) w) := by
  have HB := hide hbox
  have HO := hide hown
  clear hbox hown
  go_enter Tryd.func8, Tryd.ntmps8
  go_wp2_with fail
  refine (writeString_any R pb base A n c xs s w HB.out HO.out hbase hM hlen).mono ?_
  rintro e w' ⟨rfl, hh, ho⟩
  have HH := hide hh
  have HOn := hide ho
  clear hh ho
  go_wp2
  go_ret2
  exact ⟨rfl, HH.out, HOn.out⟩

set_option maxHeartbeats 1000000 in
theorem pwriteByte (R : List Value) (pb base : Nat) (A : Option Addr) (n c : Nat) (xs : List Value) (x : UInt8) (w : World) (hbox : w.heap[pb]? = some (.cells (.slice A n c :: R).toArray 45 (0, 0))) (hown : w.ownsRow base 5 1 (.slice A n c) n xs) (hbase : base ≤ w.heap.size)
    (hM : w.cell? ⟨0, 0, none⟩ = some (.int .i64 2147483647)) (hlen : n < 2147483647) :
    Calls Tryd.prog 9 #[.pointer (some ⟨pb, 0, none⟩), .int .u8 (x.toNat : Int)] w (Told (1) R base pb (n + 1) (Value.ownBlock (.slice A n c)) (xs ++ [bt x]) w) := by
  have HB := hide hbox
  have HO := hide hown
  clear hbox hown
  go_enter Tryd.func9, Tryd.ntmps9
  go_wp2_with fail
  refine (writeByte_any R pb base A n c xs x w HB.out HO.out hbase hM hlen).mono ?_
  rintro e w' ⟨rfl, hh, ho⟩
  have HH := hide hh
  have HOn := hide ho
  clear hh ho
  go_wp2
  go_ret2
  exact ⟨rfl, HH.out, HOn.out⟩
end Go.Proofs.YteladbeaecmceaaDoor
