/- A formatter and the buffer that it writes to, as memory: what keeps them. No program's text is walked here. -/
import Derived.Test.YtmpdcljnghaekaaDoorHolds
namespace Go.Proofs.YtmpdcljnghaekaaDoor
open Go.RowKit

/-- The formatter in the block fb holds the cells F and points at the buffer in the box pb, which owns xs. -/
structure Fm (w : World) (fb pb base n : Nat) (F : Array Value) (xs : List Value) : Prop where
  fm : w.heap[fb]? = some (.cells F 49 (0, 0))
  ptr : F[0]? = some (.pointer (some ⟨pb, 0, none⟩))
  holds : Holds base 5 43 pb n xs w
  hb : base ≤ w.heap.size
  hfb : base ≤ fb
  hpb : base ≤ pb

theorem Fm.cell {w : World} {fb pb base n : Nat} {F : Array Value} {xs : List Value} (h : Fm w fb pb base n F xs) {i : Nat} {v : Value} (hv : F[i]? = some v) : w.cell? ⟨fb, i, none⟩ = some v := by
  rw [cell_of_row w fb i F _ (0, 0) h.fm]; exact hv
theorem Fm.below {w w' : World} {fb pb base n B : Nat} {F : Array Value} {xs : List Value} (h : Fm w fb pb base n F xs) (hb : Below B w w') (hB : w.heap.size ≤ B) : Fm w' fb pb base n F xs where
  fm := by
    have hlt : fb < w.heap.size := (Array.getElem?_eq_some_iff.1 h.fm).1
    exact (hb.block fb (by omega)).trans h.fm
  ptr := h.ptr
  holds := by
    obtain ⟨A, c, hbox, hown⟩ := h.holds
    have hlt : pb < w.heap.size := (Array.getElem?_eq_some_iff.1 hbox).1
    refine ⟨A, c, (hb.block pb (by omega)).trans hbox, hown.kept (row := none) ⟨hb.os, hb.tape, hb.output, hb.size, fun k hk _ => hb.block k (by omega)⟩ (by by_cases e : Value.ownBlock (.slice A n c) = none <;> simp [e])⟩
  hb := Nat.le_trans h.hb hb.size
  hfb := h.hfb
  hpb := h.hpb
/-- Behind a write through the box. -/
theorem Fm.wrote {w w' : World} {fb pb base n n' c : Nat} {A : Option Addr} {F : Array Value} {xs ys : List Value} (h : Fm w fb pb base n F xs) (hbox : w.heap[pb]? = some (.cells #[.slice A n c] 43 (0, 0)))
    (hown : w.ownsRow base 5 1 (.slice A n c) n xs) (hh : Holds base 5 43 pb n' ys w') (ho : Only pb (Value.ownBlock (.slice A n c)) w w') : Fm w' fb pb base n' F ys ∧ Below base w w' := by
  have hlt : fb < w.heap.size := (Array.getElem?_eq_some_iff.1 h.fm).1
  refine ⟨⟨?_, h.ptr, hh, Nat.le_trans h.hb ho.size, h.hfb, h.hpb⟩, ho.below h.hb h.hpb (fun k hk => (hown.lt k hk).1)⟩
  refine (ho.block fb hlt ?_ ?_).trans h.fm
  · rintro rfl
    rw [h.fm] at hbox
    simp only [Option.some.injEq, Obj.cells.injEq] at hbox
    exact absurd hbox.2.1 (by decide)
  · intro e
    rcases hown.2 with ⟨h', _⟩ | ⟨g, cap, cur, h', _, hg, _⟩
    · rw [h'] at e
      simp [Value.ownBlock] at e
    · rw [h'] at e
      simp only [Value.ownBlock, Option.some.injEq] at e
      subst e
      rw [h.fm] at hg
      simp only [Option.some.injEq, Obj.cells.injEq] at hg
      exact absurd hg.2.1 (by decide)
/-- A box and a formatter, both new. -/
theorem Fm.new {w : World} {base n c : Nat} {A : Option Addr} {F : Array Value} {xs : List Value} (ho : w.ownsRow base 5 1 (.slice A n c) n xs) (hb : base ≤ w.heap.size) (hF : F[0]? = some (.pointer (some ⟨w.heap.size, 0, none⟩))) :
    Fm ((w.alloc (.cells #[.slice A n c] 43)).alloc (.cells F 49)) (w.heap.size + 1) w.heap.size base n F xs where
  fm := by
    have := heap_alloc_new (w.alloc (.cells #[.slice A n c] 43)) (.cells F 49)
    simpa using this
  ptr := hF
  holds := ⟨A, c, heap_alloc2_old w _ _, (ho.alloc _).alloc _⟩
  hb := by simp; omega
  hfb := by omega
  hpb := hb
end Go.Proofs.YtmpdcljnghaekaaDoor
