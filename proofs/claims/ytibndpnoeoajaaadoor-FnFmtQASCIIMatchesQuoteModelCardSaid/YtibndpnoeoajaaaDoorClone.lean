/- Words for a slice that a call makes in new memory. No walk. -/
import Derived.Test.YtibndpnoeoajaaaDoorProg
import Derived.Test.YtibndpnoeoajaaaDoorBase
import Derived.Handy
import Derived.WalkLawsBesides
import Derived.WalkSpells
namespace Go.Proofs.YtibndpnoeoajaaaDoor
open Go.RowKit

theorem info_u8 : (Tryd.prog.info? 5).map (fun i => (i.zero, i.size, i.bytes)) = some (some (.int .u8 0), 1, 1) := by kernel_rfl

/-- The call hands back a slice of n elements that owns xs from base on; below base nothing has turned. -/
def Grew (base : Nat) (E : TypeId) (n : Nat) (xs : List Value) (w : World) (e : Ending) (w' : World) : Prop :=
  ∃ A c, e = .returned (.slice A n c) ∧ w'.ownsRow base E 1 (.slice A n c) n xs ∧ Below base w w'

/-- The same in new memory. -/
def Made (E : TypeId) (n : Nat) (xs : List Value) (w : World) (e : Ending) (w' : World) : Prop := Grew w.heap.size E n xs w e w'

theorem take_set {xs : List Value} {z u : Value} {k n : Nat} (hk : k < n) (hx : xs[k]? = some u) :
    (xs.take k ++ List.replicate (n - k) z).set k u = xs.take (k + 1) ++ List.replicate (n - (k + 1)) z := by
  have hl : k < xs.length := (List.getElem?_eq_some_iff.1 hx).1
  apply List.ext_getElem?
  intro j
  have hkl : (xs.take k).length = k := by simp; omega
  have hkl1 : (xs.take (k + 1)).length = k + 1 := by simp; omega
  rw [List.getElem?_set]
  by_cases hj : k = j
  · subst hj
    rw [if_pos rfl, if_pos (by simp; omega), List.getElem?_append_left (by omega), List.getElem?_take, if_pos (by omega), hx]
  · rw [if_neg hj]
    by_cases h1 : j < k
    · rw [List.getElem?_append_left (by omega), List.getElem?_append_left (by omega), List.getElem?_take, List.getElem?_take, if_pos h1, if_pos (by omega)]
    · rw [List.getElem?_append_right (by omega), List.getElem?_append_right (by omega), hkl, hkl1, List.getElem?_replicate, List.getElem?_replicate]
      by_cases h2 : j - k < n - k
      · rw [if_pos h2, if_pos (by omega)]
      · rw [if_neg h2, if_neg (by omega)]

end Go.Proofs.YtibndpnoeoajaaaDoor
