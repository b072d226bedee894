/- The parts of the law on IndexSet: the refusal's test, an Int's Equals, a row of objects filled place by place. -/
import Derived.Test.YtfcghckaikkjbaaDoorObjs
import Derived.Test.YtfcghckaikkjbaaDoorIs
import Derived.Deep.RegionWith
namespace Go.Proofs.YtfcghckaikkjbaaDoor
open Go.RowKit

theorem taI (v : Value) (w : World) : (Instr.typeAssert (.iface 28 v) 34 28 true).run Tryd.prog w = .ok (.tuple #[v, .bool true]) w := by kernel_rfl
attribute [local go_sem] taI

set_option maxHeartbeats 1000000 in
theorem notAssign (a : Addr) (w : World) (hE : w.cell? ⟨0, 0, none⟩ = some (.iface 63 (.pointer (some a)))) :
    Calls Tryd.prog 7 #[.iface 63 (.pointer (some a))] w fun e w' => e = .returned (.bool true) ∧ w = w' := by
  go_enter Tryd.func7, Tryd.ntmps7
  go_wp2_with (go_at_call 9; refine (is_same a _).mono ?_; rintro e w' ⟨rfl, rfl⟩)
  go_ret
  exact ⟨rfl, rfl⟩

set_option maxHeartbeats 1000000 in
theorem equals_same (b c : Nat) (x : Int) (w : World) (hb : w.cell? ⟨b, 0, none⟩ = some (.int .i64 x)) (hc : w.cell? ⟨c, 0, none⟩ = some (.int .i64 x)) :
    Calls Tryd.prog 28 #[.pointer (some ⟨b, 0, none⟩), .iface 28 (.pointer (some ⟨c, 0, none⟩))] w fun e w' => e = .returned (.bool true) ∧ ∃ q, w' = w.drewN q := by
  have hd : ((x : Int) == x) = true := by simp
  go_enter Tryd.func28, Tryd.ntmps28
  go_wp2
  go_quiet (fail)
  go_wp2
  go_ret
  exact ⟨rfl, _, rfl⟩

theorem grown_setk (w : World) (b i : Nat) (v : Value) : w.grownBy (w.setCell ⟨b, i, none⟩ v) (some b) :=
  ⟨rfl, rfl, rfl, by simp, fun k _ hk => heap_setCell_other w ⟨b, i, none⟩ k _ (fun e => hk (by simp [e]))⟩

theorem fill_set (vs : List Value) (u z : Value) (k n : Nat) (hl : vs.length = k) (hk : k < n) : (vs ++ List.replicate (n - k) z).set k u = (vs ++ [u]) ++ List.replicate (n - (k + 1)) z := by
  subst hl
  rw [List.set_append_right _ _ (Nat.le_refl _), Nat.sub_self, show n - vs.length = (n - (vs.length + 1)) + 1 by omega, List.replicate_succ, List.set_cons_zero, List.append_assoc]
  rfl

/-- The row after k rounds. -/
structure Fill (w wr : World) (g n k : Nat) (vs : List Value) (zs : List Int) : Prop where
  own : wr.ownsRow w.heap.size 34 1 (.slice (some ⟨g, 0, none⟩) n n) n (vs ++ List.replicate (n - k) .nilIface)
  obj : Objs wr w.heap.size vs (zs.take k)
  bel : Below w.heap.size w wr

theorem Fill.step {w wr : World} {g n k : Nat} {vs : List Value} {zs : List Int} {x : Int} (h : Fill w wr g n k vs zs) (hl : zs.length = n) (hk : k < n) (hx : zs[k]? = some x) :
    Fill w ((wr.alloc (.cells #[.int .i64 x] 32)).setCell ⟨g, k, none⟩ (.iface 28 (.pointer (some ⟨wr.heap.size, 0, none⟩)))) g n (k + 1) (vs ++ [.iface 28 (.pointer (some ⟨wr.heap.size, 0, none⟩))]) zs := by
  have hvl : vs.length = k := by have := h.obj.len; simp at this; omega
  have ho := h.own.alloc (.cells #[.int .i64 x] 32)
  have hst := (ho.stored k (.iface 28 (.pointer (some ⟨wr.heap.size, 0, none⟩)))).1
  rw [fill_set vs _ _ k n hvl hk] at hst
  have hgl := (h.own.lt g rfl).1
  refine ⟨hst, ?_, (h.bel.alloc h.bel.size _).setCell (p := ⟨g, k, none⟩) hgl _⟩
  have h1 := h.obj.alloc (.cells #[.int .i64 x] 32)
  have h2 : Objs (wr.alloc (.cells #[.int .i64 x] 32)) w.heap.size [.iface 28 (.pointer (some ⟨wr.heap.size, 0, none⟩))] [x] :=
    ⟨rfl, fun j v y hj hy => by
      match j, hj, hy with
      | 0, hj, hy =>
        simp at hj hy
        subst hj hy
        exact ⟨wr.heap.size, rfl, h.bel.size, Blk.new wr _ _⟩⟩
  have h3 := (h1.append h2).grown ho (by decide) (grown_setk _ g k (.iface 28 (.pointer (some ⟨wr.heap.size, 0, none⟩))))
  obtain ⟨hlt, he⟩ := List.getElem?_eq_some_iff.1 hx
  rw [List.take_succ_eq_append_getElem hlt, he]
  exact h3
theorem Fill.step' {w wr : World} {g n k : Nat} {vs : List Value} {zs : List Int} {x : Int} (h : Fill w wr g n k vs zs) (hl : zs.length = n) (hk : k < n) (hx : zs[k]? = some x) :
    Fill w ((wr.setCell ⟨g, k, none⟩ (.iface 28 (.pointer (some ⟨wr.heap.size, 0, none⟩)))).alloc (.cells #[.int .i64 x] 32)) g n (k + 1) (vs ++ [.iface 28 (.pointer (some ⟨wr.heap.size, 0, none⟩))]) zs := by
  have := h.step hl hk hx
  rw [World.setCell_alloc_past _ _ _ _ (h.own.lt g rfl).2] at this
  exact this
end Go.Proofs.YtfcghckaikkjbaaDoor
