/- Slices of objects that are all Ints: what they are in memory, what keeps them, no converters. Conditions: at most 2^20 elements. -/
import Derived.Test.YtfcghckaikkjbaaDoorProg
import Derived.Test.YtfcghckaikkjbaaDoorBlk
import Derived.Test.YtfcghckaikkjbaaDoorCloneI
import Derived.Handy
import Derived.Outline
import Derived.IntWalk
import Derived.WalkLawsBesides
import Derived.WalkSpells
import Derived.Deep.QuietTactic
import Derived.BigQuiet
import Derived.RegionTactic
namespace Go.Proofs.YtfcghckaikkjbaaDoor
open Go.RowKit

theorem info_obj : (Tryd.prog.info? 34).map (fun i => (i.zero, i.size, i.bytes)) = some (some .nilIface, 1, 16) := by kernel_rfl

/-- The value v is an Int object that holds x, in a block from B on. -/
def IsInt (w : World) (B : Nat) (v : Value) (x : Int) : Prop := ∃ b, v = .iface 28 (.pointer (some ⟨b, 0, none⟩)) ∧ B ≤ b ∧ Blk w b #[.int .i64 x] 32

/-- The values vs are Int objects that hold zs. -/
structure Objs (w : World) (B : Nat) (vs : List Value) (zs : List Int) : Prop where
  len : vs.length = zs.length
  get : ∀ (j : Nat) (v : Value) (x : Int), vs[j]? = some v → zs[j]? = some x → IsInt w B v x

section
variable {w w' : World} {B B' : Nat} {vs us : List Value} {zs ys : List Int}
theorem Objs.nil (w : World) (B : Nat) : Objs w B [] [] := ⟨rfl, fun j v x h => by simp at h⟩
theorem Objs.keep (h : Objs w B vs zs) (hk : ∀ b x, B ≤ b → Blk w b #[.int .i64 x] 32 → Blk w' b #[.int .i64 x] 32) : Objs w' B vs zs :=
  ⟨h.len, fun j v x hv hx => by
    obtain ⟨b, e, hb, hB⟩ := h.get j v x hv hx
    exact ⟨b, e, hb, hk b x hb hB⟩⟩
theorem Objs.mono (h : Objs w B vs zs) (hB : B' ≤ B) : Objs w B' vs zs :=
  ⟨h.len, fun j v x hv hx => by
    obtain ⟨b, e, hb, hc⟩ := h.get j v x hv hx
    exact ⟨b, e, Nat.le_trans hB hb, hc⟩⟩
theorem Objs.alloc (h : Objs w B vs zs) (o : Obj) : Objs (w.alloc o) B vs zs := h.keep fun _ _ _ hb => hb.alloc o
theorem Objs.drewN (h : Objs w B vs zs) (k : Nat) : Objs (w.drewN k) B vs zs := h.keep fun _ _ _ hb => hb
theorem Objs.below (h : Objs w B vs zs) (hb : Below w.heap.size w w') : Objs w' B vs zs := h.keep fun _ _ _ hB => hB.below hb hB.lt
/-- Behind a write to a row of elements that are no Ints. -/
theorem Objs.grown {base E n : Nat} {v : Value} {xs : List Value} (h : Objs w B vs zs) (ho : w.ownsRow base E 1 v n xs) (hE : ¬ E = 32) (hg : w.grownBy w' v.ownBlock) : Objs w' B vs zs :=
  h.keep fun b _ _ hB => hB.of_eq (hg.block b hB.lt (by
    intro e
    rcases ho.2 with ⟨rfl, _⟩ | ⟨g, cap, cur, rfl, _, hg, _⟩
    · simp [Value.ownBlock] at e
    · simp only [Value.ownBlock, Option.some.injEq] at e
      subst e
      unfold Blk at hB
      rw [hB] at hg
      simp only [Option.some.injEq, Obj.cells.injEq] at hg
      exact hE hg.2.1.symm))
/-- Behind a store into a block that is no Int's. -/
theorem Objs.stored {b T : Nat} {cs : Array Value} (h : Objs w B vs zs) (hb : Blk w b cs T) (hT : ¬ T = 32) (i : Nat) (v : Value) : Objs (w.setCell ⟨b, i, none⟩ v) B vs zs :=
  h.keep fun k _ _ hB => hB.other (by
    rintro rfl
    unfold Blk at hb hB
    rw [hb] at hB
    simp only [Option.some.injEq, Obj.cells.injEq] at hB
    exact hT hB.2.1) v
theorem Objs.append (h : Objs w B vs zs) (h' : Objs w B us ys) : Objs w B (vs ++ us) (zs ++ ys) :=
  ⟨by rw [List.length_append, List.length_append, h.len, h'.len], fun j v x hv hx => by
    by_cases hj : j < vs.length
    · rw [List.getElem?_append_left hj] at hv
      rw [List.getElem?_append_left (by rw [← h.len]; exact hj)] at hx
      exact h.get j v x hv hx
    · rw [List.getElem?_append_right (by omega)] at hv
      rw [List.getElem?_append_right (by rw [← h.len]; omega), ← h.len] at hx
      exact h'.get _ v x hv hx⟩
theorem Objs.take (h : Objs w B vs zs) (k : Nat) : Objs w B (vs.take k) (zs.take k) :=
  ⟨by rw [List.length_take, List.length_take, h.len], fun j v x hv hx => by
    rw [List.getElem?_take] at hv hx
    split at hv
    · rw [if_pos ‹_›] at hx; exact h.get j v x hv hx
    · cases hv⟩
theorem Objs.drop (h : Objs w B vs zs) (k : Nat) : Objs w B (vs.drop k) (zs.drop k) :=
  ⟨by rw [List.length_drop, List.length_drop, h.len], fun j v x hv hx => by
    rw [List.getElem?_drop] at hv hx
    exact h.get _ v x hv hx⟩
theorem Objs.ones (h : Objs w B vs zs) : ∀ u ∈ vs, u.oneCell' = true := by
  intro u hu
  obtain ⟨j, hj, rfl⟩ := List.mem_iff_getElem.1 hu
  obtain ⟨b, e, _⟩ := h.get j _ (zs[j]'(by rw [← h.len]; exact hj)) (List.getElem?_eq_getElem hj) (List.getElem?_eq_getElem _)
  rw [e]
  rfl
end

theorem own_some {w : World} {base E n c : Nat} {A : Option Addr} {xs : List Value} (h : w.ownsRow base E 1 (.slice A n c) n xs) (hn : 0 < n) : ∃ g, A = some ⟨g, 0, none⟩ := by
  rcases h.2 with ⟨h', h0⟩ | ⟨g, cap, cur, h', _⟩
  · omega
  · simp only [Value.slice.injEq] at h'; exact ⟨g, h'.1⟩

/-- The objects of a list of integers come back in new memory. -/
def MadeObjs (zs : List Int) (w : World) (e : Ending) (w' : World) : Prop :=
  ∃ g c vs, e = .returned (.slice (some ⟨g, 0, none⟩) zs.length c) ∧ w'.ownsRow w.heap.size 34 1 (.slice (some ⟨g, 0, none⟩) zs.length c) zs.length vs ∧ Objs w' w.heap.size vs zs ∧ Below w.heap.size w w'

theorem one_at (w : World) (x : Int) : SlIn ((w.alloc (.cells #[.int .i64 x] 32)).alloc (.cells #[.iface 28 (.pointer (some ⟨w.heap.size, 0, none⟩))] 34)) (w.heap.size + 1 + 1) (some ⟨w.heap.size + 1, 0, none⟩) 1 1 [.iface 28 (.pointer (some ⟨w.heap.size, 0, none⟩))] := by
  have h := SlIn.one (w.alloc (.cells #[.int .i64 x] 32)) (.iface 28 (.pointer (some ⟨w.heap.size, 0, none⟩))) 34
  simpa using h
theorem objs_snoc {w wr w2 : World} {k x : _} {A A2 : Option Addr} {c c2 : Nat} {vs : List Value} {zs : List Int} (ho : wr.ownsRow w.heap.size 34 1 (.slice A k c) k vs) (hv : Objs wr w.heap.size vs (zs.take k)) (hb : Below w.heap.size w wr) (hx : zs[k]? = some x)
    (hown : w2.ownsRow w.heap.size 34 1 (.slice A2 (k + 1) c2) (k + 1) (vs ++ [.iface 28 (.pointer (some ⟨wr.heap.size, 0, none⟩))])) (hg : ((wr.alloc (.cells #[.int .i64 x] 32)).alloc (.cells #[.iface 28 (.pointer (some ⟨wr.heap.size, 0, none⟩))] 34)).grownBy w2 (Value.ownBlock (.slice A k c))) :
    w2.ownsRow w.heap.size 34 1 (.slice A2 (k + 1) c2) (k + 1) (vs ++ [.iface 28 (.pointer (some ⟨wr.heap.size, 0, none⟩))]) ∧ Objs w2 w.heap.size (vs ++ [.iface 28 (.pointer (some ⟨wr.heap.size, 0, none⟩))]) (zs.take (k + 1)) ∧ Below w.heap.size w w2 := by
  refine ⟨hown, ?_, ?_⟩
  · have h1 := ((hv.alloc (.cells #[.int .i64 x] 32)).alloc (.cells #[.iface 28 (.pointer (some ⟨wr.heap.size, 0, none⟩))] 34))
    have h2 : Objs ((wr.alloc (.cells #[.int .i64 x] 32)).alloc (.cells #[.iface 28 (.pointer (some ⟨wr.heap.size, 0, none⟩))] 34)) w.heap.size [.iface 28 (.pointer (some ⟨wr.heap.size, 0, none⟩))] [x] :=
      ⟨rfl, fun j v y hj hy => by
        match j, hj, hy with
        | 0, hj, hy =>
          simp at hj hy
          subst hj hy
          exact ⟨wr.heap.size, rfl, hb.size, (Blk.new wr _ _).alloc _⟩⟩
    have h3 := (h1.append h2).grown ((ho.alloc _).alloc _) (by decide) hg
    obtain ⟨hl, he⟩ := List.getElem?_eq_some_iff.1 hx
    rw [List.take_succ_eq_append_getElem hl, he]
    exact h3
  · exact (((hb.alloc hb.size _).alloc (by have := hb.size; simp; omega) _)).grown hg (by have := hb.size; simp; omega) (fun q hq => (ho.lt q hq).1)

theorem ints_snoc {w wr w2 : World} {k t : Nat} {x : Int} {A A2 : Option Addr} {c c2 : Nat} {zs : List Int} (ho : wr.ownsRow w.heap.size 2 1 (.slice A k c) k ((zs.take k).map (Value.int .i64))) (hb : Below w.heap.size w wr) (hx : zs[k]? = some x)
    (hown : w2.ownsRow w.heap.size 2 1 (.slice A2 (k + 1) c2) (k + 1) ((zs.take k).map (Value.int .i64) ++ [.int .i64 x])) (hg : (wr.alloc (.cells #[.int .i64 x] t)).grownBy w2 (Value.ownBlock (.slice A k c))) :
    w2.ownsRow w.heap.size 2 1 (.slice A2 (k + 1) c2) (k + 1) ((zs.take (k + 1)).map (Value.int .i64)) ∧ Below w.heap.size w w2 := by
  refine ⟨?_, (hb.alloc hb.size _).grown hg (by have := hb.size; simp; omega) (fun q hq => (ho.lt q hq).1)⟩
  obtain ⟨hl, he⟩ := List.getElem?_eq_some_iff.1 hx
  rw [List.take_succ_eq_append_getElem hl, List.map_append, he]
  exact hown

end Go.Proofs.YtfcghckaikkjbaaDoor
