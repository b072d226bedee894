/- A formatter and the buffer that it writes to, as memory: what keeps them. No program's text is walked here. -/
import Derived.Test.YtibndpnoeoajaaaDoorHolds
namespace Go.Proofs.YtibndpnoeoajaaaDoor
open Go.RowKit

/-- Below base all but the box pb is as it was. -/
structure Safe (base pb : Nat) (w w' : World) : Prop where
  os : w'.os = w.os
  tape : w'.tape = w.tape
  output : w'.output = w.output
  size : w.heap.size ≤ w'.heap.size
  block : ∀ k, k < base → ¬ k = pb → w'.heap[k]? = w.heap[k]?
theorem Safe.refl (base pb : Nat) (w : World) : Safe base pb w w := ⟨rfl, rfl, rfl, Nat.le_refl _, fun _ _ _ => rfl⟩
theorem Safe.trans {base pb : Nat} {a b c : World} (h : Safe base pb a b) (k : Safe base pb b c) : Safe base pb a c :=
  ⟨k.os.trans h.os, k.tape.trans h.tape, k.output.trans h.output, Nat.le_trans h.size k.size, fun i hi hne => (k.block i hi hne).trans (h.block i hi hne)⟩
theorem Safe.of {base pb : Nat} {a b : World} (h : Below base a b) : Safe base pb a b := ⟨h.os, h.tape, h.output, h.size, fun k hk _ => h.block k hk⟩
theorem Safe.drew {base pb : Nat} {a b : World} (h : Safe base pb a b) : Safe base pb a b.drew := ⟨h.os, h.tape, h.output, h.size, h.block⟩
theorem Safe.drewN {base pb : Nat} {a b : World} (h : Safe base pb a b) (q : Nat) : Safe base pb a (b.drewN q) := ⟨h.os, h.tape, h.output, h.size, h.block⟩
theorem Safe.below {base pb B : Nat} {a b : World} (h : Safe base pb a b) (hB : B ≤ base) (hpb : B ≤ pb) : Below B a b := ⟨h.os, h.tape, h.output, h.size, fun k hk => h.block k (by omega) (by omega)⟩
theorem Safe.cell {base pb : Nat} {a b : World} (h : Safe base pb a b) {p : Addr} (hp : p.block < base) (hne : ¬ p.block = pb) : b.cell? p = a.cell? p := World.cell?_of_block (h.block p.block hp hne)
theorem Only.safe {pb base : Nat} {row : Option Nat} {w w' : World} (h : Only pb row w w') (hb : base ≤ w.heap.size) (hr : ∀ k, row = some k → base ≤ k) : Safe base pb w w' :=
  ⟨h.os, h.tape, h.output, h.size, fun k hk hne => h.block k (by omega) hne (fun e => by have := hr k e.symm; omega)⟩

/-- The formatter in the block fb holds the cells F and points at the buffer in the box pb, which owns xs. -/
structure Fm (w : World) (fb pb base n : Nat) (F : Array Value) (xs : List Value) : Prop where
  fm : w.heap[fb]? = some (.cells F 35 (0, 0))
  ptr : F[0]? = some (.pointer (some ⟨pb, 0, none⟩))
  holds : Holds base 5 28 pb n xs w
  hb : base ≤ w.heap.size

theorem Fm.cell {w : World} {fb pb base n : Nat} {F : Array Value} {xs : List Value} (h : Fm w fb pb base n F xs) {i : Nat} {v : Value} (hv : F[i]? = some v) : w.cell? ⟨fb, i, none⟩ = some v := by
  rw [cell_of_row w fb i F _ (0, 0) h.fm]; exact hv
theorem Fm.below {w w' : World} {fb pb base n B : Nat} {F : Array Value} {xs : List Value} (h : Fm w fb pb base n F xs) (hb : Below B w w') (hB : w.heap.size ≤ B) : Fm w' fb pb base n F xs where
  fm := by
    have hlt : fb < w.heap.size := (Array.getElem?_eq_some_iff.1 h.fm).1
    exact (hb.block fb (by omega)).trans h.fm
  ptr := h.ptr
  holds := by
    obtain ⟨A, c, hbox, hown⟩ := h.holds
    have hlt : pb < w.heap.size := (Array.getElem?_eq_some_iff.1 hbox).1
    refine ⟨A, c, (hb.block pb (by omega)).trans hbox, hown.kept (row := none) ⟨hb.os, hb.tape, hb.output, hb.size, fun k hk _ => hb.block k (by omega)⟩ (by by_cases e : Value.ownBlock (.slice A n c) = none <;> simp [e])⟩
  hb := Nat.le_trans h.hb hb.size
/-- Behind a write through the box. -/
theorem Fm.wrote {w w' : World} {fb pb base n n' c : Nat} {A : Option Addr} {F : Array Value} {xs ys : List Value} (h : Fm w fb pb base n F xs) (hbox : w.heap[pb]? = some (.cells #[.slice A n c] 28 (0, 0)))
    (hown : w.ownsRow base 5 1 (.slice A n c) n xs) (hh : Holds base 5 28 pb n' ys w') (ho : Only pb (Value.ownBlock (.slice A n c)) w w') : Fm w' fb pb base n' F ys ∧ Safe base pb w w' := by
  have hlt : fb < w.heap.size := (Array.getElem?_eq_some_iff.1 h.fm).1
  refine ⟨⟨?_, h.ptr, hh, Nat.le_trans h.hb ho.size⟩, ho.safe h.hb (fun k hk => (hown.lt k hk).1)⟩
  refine (ho.block fb hlt ?_ ?_).trans h.fm
  · rintro rfl
    rw [h.fm] at hbox
    simp only [Option.some.injEq, Obj.cells.injEq] at hbox
    exact absurd hbox.2.1 (by decide)
  · intro e
    rcases hown.2 with ⟨h', _⟩ | ⟨g, cap, cur, h', _, hg, _⟩
    · rw [h'] at e
      simp [Value.ownBlock] at e
    · rw [h'] at e
      simp only [Value.ownBlock, Option.some.injEq] at e
      subst e
      rw [h.fm] at hg
      simp only [Option.some.injEq, Obj.cells.injEq] at hg
      exact absurd hg.2.1 (by decide)
/-- A box and a formatter, both new. -/
theorem Fm.new {w : World} {base n c : Nat} {A : Option Addr} {F : Array Value} {xs : List Value} (ho : w.ownsRow base 5 1 (.slice A n c) n xs) (hb : base ≤ w.heap.size) (hF : F[0]? = some (.pointer (some ⟨w.heap.size, 0, none⟩))) :
    Fm ((w.alloc (.cells #[.slice A n c] 28)).alloc (.cells F 35)) (w.heap.size + 1) w.heap.size base n F xs where
  fm := by
    have := heap_alloc_new (w.alloc (.cells #[.slice A n c] 28)) (.cells F 35)
    simpa using this
  ptr := hF
  holds := ⟨A, c, heap_alloc2_old w _ _, (ho.alloc _).alloc _⟩
  hb := by simp; omega
theorem cellS {w w' : World} {base pb g : Nat} {v : Value} (h : w.cell? ⟨g, 0, none⟩ = some v) (hs : Safe base pb w w') (h0 : g < base) (hp : ¬ g = pb) : w'.cell? ⟨g, 0, none⟩ = some v := (hs.cell (p := ⟨g, 0, none⟩) h0 hp).trans h
end Go.Proofs.YtibndpnoeoajaaaDoor
