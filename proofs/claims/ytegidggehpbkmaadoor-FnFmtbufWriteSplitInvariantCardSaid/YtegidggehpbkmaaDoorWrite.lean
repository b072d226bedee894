/- The contracts of the two writers of a byte buffer: behind the call the buffer owns what it owned and, behind that, the bytes that were written; nothing below its own memory has turned. Conditions: the buffer is a row of the caller's own; the new length does not pass the limit variable's value 2147483647. -/
import Derived.Test.YtegidggehpbkmaaDoorProg
import Derived.Test.YtegidggehpbkmaaDoorBase
import Derived.Test.YtegidggehpbkmaaDoorClone
import Derived.Handy
import Derived.OneCell
import Derived.IntWalk
import Derived.WalkLawsBesides
import Derived.WalkSpells
import Derived.Deep.QuietTactic
import Derived.BigQuiet
namespace Go.Proofs.YtegidggehpbkmaaDoor
open Go.RowKit

/-- The buffer in the box pb holds a slice of n elements that owns xs. -/
def Holds (base E T pb n : Nat) (xs : List Value) (w : World) : Prop :=
  ∃ A c, w.heap[pb]? = some (.cells #[.slice A n c] T (0, 0)) ∧ w.ownsRow base E 1 (.slice A n c) n xs

def Wrote (base E T pb n : Nat) (xs : List Value) (w : World) (e : Ending) (w' : World) : Prop :=
  e = .returned (.tuple #[]) ∧ Holds base E T pb n xs w' ∧ Below base w w'

/-- A box and a row's block are two blocks, by their types. -/
theorem own_ne_box {w : World} {base E T pb n : Nat} {v u : Value} {xs : List Value} (hT : ¬ E = T) (hbox : w.heap[pb]? = some (.cells #[u] T (0, 0))) (hown : w.ownsRow base E 1 v n xs) : some pb ≠ v.ownBlock := by
  intro e
  rcases hown.2 with ⟨rfl, _⟩ | ⟨g, cap, cur, rfl, _, hg, _⟩
  · simp [Value.ownBlock] at e
  · simp only [Value.ownBlock, Option.some.injEq] at e
    subst e
    rw [hbox] at hg
    simp only [Option.some.injEq, Obj.cells.injEq] at hg
    exact hT hg.2.1.symm

theorem box_stored {w w1 : World} {base E T pb n m : Nat} {u v A c} {xs ys : List Value} (hT : ¬ E = T) (hpb : base ≤ pb) (hbox : w.heap[pb]? = some (.cells #[u] T (0, 0))) (hown : w.ownsRow base E 1 v n xs)
    (hg : w.grownBy w1 v.ownBlock) (hown1 : w1.ownsRow base E 1 (.slice A m c) m ys) :
    w1.cell? ⟨pb, 0, none⟩ = some u ∧ w1.frozen? ⟨pb, 0, none⟩ = false ∧ Holds base E T pb m ys (w1.setCell ⟨pb, 0, none⟩ (.slice A m c)) ∧ Below base w (w1.setCell ⟨pb, 0, none⟩ (.slice A m c)) := by
  have hlt : pb < w.heap.size := (Array.getElem?_eq_some_iff.1 hbox).1
  have hb1 : w1.heap[pb]? = some (.cells #[u] T (0, 0)) := (hg.block pb hlt (own_ne_box hT hbox hown)).trans hbox
  have hB : Below base w w1 := (Below.refl _ _).grown hg (by omega) (fun k hk => (hown.lt k hk).1)
  refine ⟨cell_of_one hb1, free_of_one hb1, ⟨A, c, ?_, ?_⟩, hB.setCell hpb _⟩
  · have := heap_setCell_same w1 pb 0 #[u] T (.slice A m c) hb1
    simpa using this
  · refine hown1.kept (row := some pb) ⟨rfl, rfl, rfl, by simp, fun k _ hk => heap_setCell_other w1 ⟨pb, 0, none⟩ k _ (fun e => hk (by simp [e]))⟩ (.inr ?_)
    exact fun e => own_ne_box hT hb1 hown1 e.symm

set_option maxHeartbeats 1000000 in
theorem write_any (pb base : Nat) (A A' : Option Addr) (n c m d : Nat) (xs : List Value) (ys : List UInt8) (w : World) (hbox : w.heap[pb]? = some (.cells #[.slice A n c] 30 (0, 0))) (hown : w.ownsRow base 5 1 (.slice A n c) n xs) (hpb : base ≤ pb)
    (hS : SlIn w w.heap.size A' m d (ys.map bt)) (hM : w.cell? ⟨0, 0, none⟩ = some (.int .i64 2147483647)) (hlen : n + m ≤ 2147483647) :
    Calls Tryd.prog 18 #[.pointer (some ⟨pb, 0, none⟩), .slice A' m d] w (Wrote base 5 30 pb (n + m) (xs ++ ys.map bt) w) := by
  obtain ⟨i, hi, hz0, hz1, hz2⟩ := info_parts info_u8
  have hlt : pb < w.heap.size := (Array.getElem?_eq_some_iff.1 hbox).1
  have hcell := cell_of_one hbox
  have HB := hide hbox
  have HO := hide hown
  have HS := hide hS
  clear hbox hown hS
  have hsum : IntKind.i64.wrap ((n : Int) + (m : Int)) = (n : Int) + (m : Int) := IntWalk.i64_in _ (by omega)
  have hd : decide ((2147483647 : Int) < (n : Int) + (m : Int)) = false := by simp; omega
  go_enter Tryd.func18, Tryd.ntmps18
  go_wp2_with fail
  go_quiet (fail)
  clear hsum
  go_wp2_with (at_builtin; refine wpList_append_in _ rfl _ _ 30 22 rfl base 5 5 i (.int .u8 0) 1 Tryd.underlying30 Tryd.underlying22 hi hz0 hz1 hz2 rfl _ n xs rfl HO.out w.heap.size A' m d (ys.map bt) rfl (HS.out.drewN _) (bts_one ys) (by unfold maxLen; omega) (by omega) (by simp; omega) ?_; intro A1 c1 w1 hown1 hgrow1; have R := box_stored (by decide) hpb HB.out HO.out (show w.grownBy w1 _ from ⟨hgrow1.os, hgrow1.tape, hgrow1.output, hgrow1.size, hgrow1.block⟩) hown1; have r1 := R.1; have r2 := R.2.1; have HR := hide R.2.2; clear R hown1 hgrow1)
  go_end0
  exact ⟨rfl, HR.out.1, HR.out.2⟩

set_option maxHeartbeats 1000000 in
theorem writeString_any (pb base : Nat) (A : Option Addr) (n c : Nat) (xs : List Value) (s : ByteArray) (w : World) (hbox : w.heap[pb]? = some (.cells #[.slice A n c] 30 (0, 0))) (hown : w.ownsRow base 5 1 (.slice A n c) n xs) (hpb : base ≤ pb)
    (hM : w.cell? ⟨0, 0, none⟩ = some (.int .i64 2147483647)) (hlen : n + s.size ≤ 2147483647) :
    Calls Tryd.prog 17 #[.pointer (some ⟨pb, 0, none⟩), .string s] w (Wrote base 5 30 pb (n + s.size) (xs ++ s.data.toList.map bt) w) := by
  obtain ⟨i, hi, hz0, hz1, hz2⟩ := info_parts info_u8
  have hlt : pb < w.heap.size := (Array.getElem?_eq_some_iff.1 hbox).1
  have hcell := cell_of_one hbox
  have HB := hide hbox
  have HO := hide hown
  clear hbox hown
  have hsum : IntKind.i64.wrap ((n : Int) + (s.size : Int)) = (n : Int) + (s.size : Int) := IntWalk.i64_in _ (by omega)
  have hd : decide ((2147483647 : Int) < (n : Int) + (s.size : Int)) = false := by simp; omega
  go_enter Tryd.func17, Tryd.ntmps17
  go_wp2_with fail
  go_quiet (fail)
  clear hsum
  go_wp2_with (at_builtin; refine wpList_append_str _ rfl _ _ 30 9 rfl base 5 i Tryd.underlying30 Tryd.underlying9 hi hz0 hz1 hz2 _ n xs rfl HO.out s rfl (by unfold maxLen; omega) (by omega) (by simp; omega) ?_; intro A1 c1 w1 hown1 hgrow1; have R := box_stored (by decide) hpb HB.out HO.out (show w.grownBy w1 _ from ⟨hgrow1.os, hgrow1.tape, hgrow1.output, hgrow1.size, hgrow1.block⟩) hown1; have r1 := R.1; have r2 := R.2.1; have HR := hide R.2.2; clear R hown1 hgrow1)
  go_end0
  exact ⟨rfl, HR.out.1, HR.out.2⟩
end Go.Proofs.YtegidggehpbkmaaDoor
