/- The contracts of the two writers of a byte buffer: behind the call the buffer owns what it owned and, behind that, the bytes that were written; nothing below its own memory has turned. Conditions: the buffer is a row of the caller's own; the new length does not pass the limit variable's value 2147483647. -/
import Derived.Test.YtibndpnoeoajaaaDoorProg
import Derived.Test.YtibndpnoeoajaaaDoorBase
import Derived.Test.YtibndpnoeoajaaaDoorClone
import Derived.Handy
import Derived.OneCell
import Derived.IntWalk
import Derived.WalkLawsBesides
import Derived.WalkSpells
import Derived.Deep.QuietTactic
import Derived.BigQuiet
namespace Go.Proofs.YtibndpnoeoajaaaDoor
open Go.RowKit

/-- The buffer in the box pb holds a slice of n elements that owns xs. -/
def Holds (base E T pb n : Nat) (xs : List Value) (w : World) : Prop :=
  ∃ A c, w.heap[pb]? = some (.cells #[.slice A n c] T (0, 0)) ∧ w.ownsRow base E 1 (.slice A n c) n xs

/-- Only the box pb, the row and new blocks may have turned. -/
structure Only (pb : Nat) (row : Option Nat) (w w' : World) : Prop where
  os : w'.os = w.os
  tape : w'.tape = w.tape
  output : w'.output = w.output
  size : w.heap.size ≤ w'.heap.size
  block : ∀ k, k < w.heap.size → ¬ k = pb → some k ≠ row → w'.heap[k]? = w.heap[k]?

theorem Only.below {pb base : Nat} {row : Option Nat} {w w' : World} (h : Only pb row w w') (hb : base ≤ w.heap.size) (hpb : base ≤ pb) (hr : ∀ k, row = some k → base ≤ k) : Below base w w' :=
  ⟨h.os, h.tape, h.output, h.size, fun k hk => h.block k (by omega) (by omega) (fun e => by have := hr k e.symm; omega)⟩
/-- Where the box is new. -/
theorem Only.grown {row : Option Nat} {w w' : World} {o : Obj} (h : Only w.heap.size row (w.alloc o) w') : w.grownBy w' row :=
  ⟨h.os, h.tape, h.output, Nat.le_trans (by simp) h.size, fun k hk hne => (h.block k (by simp; omega) (by omega) hne).trans (heap_alloc_old w o hk)⟩

def Wrote (base E T pb n : Nat) (row : Option Nat) (xs : List Value) (w : World) (e : Ending) (w' : World) : Prop :=
  e = .returned (.tuple #[]) ∧ Holds base E T pb n xs w' ∧ Only pb row w w'

/-- The call hands back a slice of n elements that owns xs from base on; but for the row and new blocks nothing has turned. -/
def Put (base : Nat) (row : Option Nat) (E : TypeId) (n : Nat) (xs : List Value) (w : World) (e : Ending) (w' : World) : Prop :=
  ∃ A c, e = .returned (.slice A n c) ∧ w'.ownsRow base E 1 (.slice A n c) n xs ∧ w.grownBy w' row

/-- A box and a row's block are two blocks, by their types. -/
theorem own_ne_box {w : World} {base E T pb n : Nat} {v u : Value} {xs : List Value} (hT : ¬ E = T) (hbox : w.heap[pb]? = some (.cells #[u] T (0, 0))) (hown : w.ownsRow base E 1 v n xs) : some pb ≠ v.ownBlock := by
  intro e
  rcases hown.2 with ⟨rfl, _⟩ | ⟨g, cap, cur, rfl, _, hg, _⟩
  · simp [Value.ownBlock] at e
  · simp only [Value.ownBlock, Option.some.injEq] at e
    subst e
    rw [hbox] at hg
    simp only [Option.some.injEq, Obj.cells.injEq] at hg
    exact hT hg.2.1.symm

theorem box_stored {w w1 : World} {base E T pb n m : Nat} {u v A c} {xs ys : List Value} (hT : ¬ E = T) (hbox : w.heap[pb]? = some (.cells #[u] T (0, 0))) (hown : w.ownsRow base E 1 v n xs)
    (hg : w.grownBy w1 v.ownBlock) (hown1 : w1.ownsRow base E 1 (.slice A m c) m ys) :
    w1.cell? ⟨pb, 0, none⟩ = some u ∧ w1.frozen? ⟨pb, 0, none⟩ = false ∧ Holds base E T pb m ys (w1.setCell ⟨pb, 0, none⟩ (.slice A m c)) ∧ Only pb v.ownBlock w (w1.setCell ⟨pb, 0, none⟩ (.slice A m c)) := by
  have hlt : pb < w.heap.size := (Array.getElem?_eq_some_iff.1 hbox).1
  have hb1 : w1.heap[pb]? = some (.cells #[u] T (0, 0)) := (hg.block pb hlt (own_ne_box hT hbox hown)).trans hbox
  refine ⟨cell_of_one hb1, free_of_one hb1, ⟨A, c, ?_, ?_⟩, ⟨hg.os, hg.tape, hg.output, by simpa [World.setCell] using hg.size, fun k hk hne hr => ?_⟩⟩
  · have := heap_setCell_same w1 pb 0 #[u] T (.slice A m c) hb1
    simpa using this
  · refine hown1.kept (row := some pb) ⟨rfl, rfl, rfl, by simp, fun k _ hk => heap_setCell_other w1 ⟨pb, 0, none⟩ k _ (fun e => hk (by simp [e]))⟩ (.inr ?_)
    exact fun e => own_ne_box hT hb1 hown1 e.symm
  · exact (heap_setCell_other w1 ⟨pb, 0, none⟩ k _ hne).trans (hg.block k hk hr)

/-- A new one-element literal turns nothing that was there. -/
theorem Only.ahead {pb : Nat} {row : Option Nat} {w w' : World} {o : Obj} (h : Only pb row (w.alloc o) w') : Only pb row w w' :=
  ⟨h.os, h.tape, h.output, Nat.le_trans (by simp) h.size, fun k hk hne hr => (h.block k (by simp; omega) hne hr).trans (heap_alloc_old w o hk)⟩
end Go.Proofs.YtibndpnoeoajaaaDoor
