/- What the end of splice does to memory, in plain words. No program's text is walked here. -/
import Derived.Test.YtdfjbegifibldaaDoorObjs
namespace Go.Proofs.YtdfjbegifibldaaDoor
open Go.RowKit

theorem own_pre {w : World} {base E n c : Nat} {A : Option Addr} {xs : List Value} (h : w.ownsRow base E 1 (.slice A n c) n xs) {k : Nat} (hk : k ≤ n) : w.ownsRow base E 1 (.slice A k c) k (xs.take k) := by
  have hl : xs.length = n := by simpa using h.1
  refine ⟨by simp [hl]; omega, ?_⟩
  rcases h.2 with ⟨h', h0⟩ | ⟨g, cap, cur, h', hb, hg, hnc, hcm, hcs, htake⟩
  · simp only [Value.slice.injEq] at h'
    obtain ⟨rfl, _, rfl⟩ := h'
    exact .inl ⟨by rw [show k = 0 by omega], by omega⟩
  · simp only [Value.slice.injEq, true_and] at h'
    obtain ⟨rfl, rfl⟩ := h'
    refine .inr ⟨g, c, cur, rfl, hb, hg, by omega, hcm, hcs, ?_⟩
    have ht := congrArg (List.take k) htake
    rw [List.take_take] at ht
    rw [← ht]
    congr 1
    omega

theorem own_not {w : World} {base E T b n : Nat} {v : Value} {cs : Array Value} {xs : List Value} (hT : ¬ E = T) (hb : Blk w b cs T) (ho : w.ownsRow base E 1 v n xs) : some b ≠ v.ownBlock := by
  intro e
  rcases ho.2 with ⟨rfl, _⟩ | ⟨g, cap, cur, rfl, _, hg, _⟩
  · simp [Value.ownBlock] at e
  · simp only [Value.ownBlock, Option.some.injEq] at e
    subst e
    unfold Blk at hb
    rw [hb] at hg
    simp only [Option.some.injEq, Obj.cells.injEq] at hg
    exact hT hg.2.1.symm

theorem ownBlock_slice (A : Option Addr) (n m c : Nat) : Value.ownBlock (.slice A n c) = Value.ownBlock (.slice A m c) := by cases A <;> rfl

theorem grown_set (w : World) (b : Nat) (v : Value) : w.grownBy (w.setCell ⟨b, 0, none⟩ v) (some b) :=
  ⟨rfl, rfl, rfl, by simp, fun k _ hk => heap_setCell_other w ⟨b, 0, none⟩ k _ (fun e => hk (by simp [e]))⟩

/-- What splice leaves: the array's block, the deleted elements' block, both lists. -/
structure Spliced (w w' : World) (base B ab db d n2 : Nat) (D L : List Int) : Prop where
  del : ∃ A c vs, Blk w' db #[.slice A d c] 36 ∧ SlIn w' w'.heap.size A d c vs ∧ Objs w' B vs D
  arr : ∃ A c vs, Blk w' ab #[.slice A n2 c] 36 ∧ SlIn w' w'.heap.size A n2 c vs ∧ Objs w' B vs L
  bel : Below base w w'

theorem splice_mem {w w3 w4 : World} {base B ab n c st d n2 c1 c2 : Nat} {A A1 A2 : Option Addr} {vs dv av : List Value} {D L : List Int}
    (hblk : Blk w ab #[.slice A n c] 36) (hown : w.ownsRow base 41 1 (.slice A n c) n vs) (hbase : base ≤ w.heap.size) (hab : base ≤ ab) (hst : st ≤ n)
    (hb3 : Below w.heap.size w w3) (hD : w3.ownsRow w.heap.size 41 1 (.slice A1 d c1) d dv) (hDo : Objs w3 B dv D)
    (h4 : w4.ownsRow base 41 1 (.slice A2 n2 c2) n2 av) (hg : w3.grownBy w4 (Value.ownBlock (.slice A st c))) (hLo : Objs w3 B av L) :
    w4.cell? ⟨ab, 0, none⟩ = some (.slice A n c) ∧ w4.frozen? ⟨ab, 0, none⟩ = false ∧
    Spliced w ((w4.setCell ⟨ab, 0, none⟩ (.slice A2 n2 c2)).alloc (.cells #[.slice A1 d c1] 36)) base B ab w4.heap.size d n2 D L := by
  have hlt := hblk.lt
  have hblk3 : Blk w3 ab #[.slice A n c] 36 := hblk.below hb3 hlt
  have hown3 : w3.ownsRow base 41 1 (.slice A n c) n vs := own_below hown hb3
  have hpre := own_pre hown3 hst
  have hblk4 : Blk w4 ab #[.slice A n c] 36 := hblk3.of_eq (hg.block ab hblk3.lt (own_not (by decide) hblk3 hpre))
  have hDap : Value.ownBlock (.slice A1 d c1) = none ∨ Value.ownBlock (.slice A1 d c1) ≠ Value.ownBlock (.slice A st c) := by
    cases hv : Value.ownBlock (.slice A1 d c1) with
    | none => exact .inl rfl
    | some g =>
      right
      intro e
      have h1 := (hD.lt g hv).1
      rw [ownBlock_slice A st n c] at e
      have h2 := (hown.lt g e.symm).2
      omega
  have hD4 := hD.kept hg hDap
  have hset := grown_set w4 ab (.slice A2 n2 c2)
  have hD5 := hD4.kept hset (.inr (fun e => own_not (by decide) hblk4 hD4 e.symm))
  have h5 := h4.kept hset (.inr (fun e => own_not (by decide) hblk4 h4 e.symm))
  have e5 : (w4.setCell ⟨ab, 0, none⟩ (.slice A2 n2 c2)).heap.size = w4.heap.size := by simp
  have keepO : ∀ {us ys}, Objs w3 B us ys → Objs ((w4.setCell ⟨ab, 0, none⟩ (.slice A2 n2 c2)).alloc (.cells #[.slice A1 d c1] 36)) B us ys := fun h =>
    ((h.grown hpre (by decide) hg).stored hblk4 (by decide) 0 _).alloc _
  refine ⟨hblk4.at rfl, hblk4.free 0, ⟨A1, c1, dv, ?_, ?_, keepO hDo⟩, ⟨A2, c2, av, ?_, ?_, keepO hLo⟩, ?_⟩
  · have := Blk.new (w4.setCell ⟨ab, 0, none⟩ (.slice A2 n2 c2)) #[.slice A1 d c1] 36
    rw [e5] at this
    exact this
  · exact SlIn.of_own (hD5.alloc _)
  · exact (hblk4.set 0 _).alloc _
  · exact SlIn.of_own (h5.alloc _)
  · have b4 : Below base w w4 := (hb3.mono hbase).grown hg (Nat.le_trans hbase hb3.size) (fun k hk => (hpre.lt k hk).1)
    exact (b4.setCell hab _).alloc (by rw [e5]; exact Nat.le_trans hbase b4.size) _
end Go.Proofs.YtdfjbegifibldaaDoor
