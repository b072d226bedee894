/- A text in its field counts as many runes as the law says. Plain Lean. -/
import Derived.Test.YtmpdcljnghaekaaDoorSuf
import Derived.Test.YtmpdcljnghaekaaDoorPadS
namespace Go.Proofs.YtmpdcljnghaekaaDoor
open Go.RowKit

/-- How many runes the law wants. -/
def want (wp : Bool) (wd : Int) (r : Nat) : Nat := if wp && wd != 0 then (if (r : Int) < wd then wd.toNat else r) else r
theorem want_room (wp : Bool) (wd : Int) (r : Nat) : r + room wp wd r = want wp wd r := by
  unfold want room
  split
  · split <;> omega
  · omega
theorem field_runes (mi z : Bool) (k : Nat) (s : ByteArray) : ∃ T : List UInt8, inField mi z k (s.data.toList.map bt) = T.map bt ∧ T.length = k + s.size ∧ Lib.runeCount ⟨T.toArray⟩ = Lib.runeCount s + k := by
  have hp : (pby z).toNat < 128 := by cases z <;> decide
  have hs : (⟨s.data.toList.toArray⟩ : ByteArray) = s := by cases s; simp
  have hl : s.data.toList.length = s.size := by show s.data.toList.length = s.data.size; simp
  have hpad : padL z k = (List.replicate k (pby z)).map bt := by simp [padL]
  cases mi
  · refine ⟨List.replicate k (pby z) ++ s.data.toList, by simp only [inField, hpad, List.map_append]; rfl, by rw [List.length_append, List.length_replicate, hl], ?_⟩
    rw [rc_pre _ _ _ hp, hs, Nat.add_comm]
  · refine ⟨s.data.toList ++ List.replicate k (pby z), by simp only [inField, hpad, List.map_append]; rfl, by rw [List.length_append, List.length_replicate, hl, Nat.add_comm], ?_⟩
    rw [rc_suf _ _ _ hp, hs]
end Go.Proofs.YtmpdcljnghaekaaDoor
