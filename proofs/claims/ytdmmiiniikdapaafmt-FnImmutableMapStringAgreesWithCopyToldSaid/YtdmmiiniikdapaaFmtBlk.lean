/- A block of cells known whole, and what keeps it. No program in sight. -/
import Derived.Test.YtdmmiiniikdapaaFmtBase
import Derived.OneCell
namespace Go.Proofs.YtdmmiiniikdapaaFmt
open Go.RowKit

/-- The block b holds the cells cs. -/
def Blk (w : World) (b : Nat) (cs : Array Value) (T : TypeId) : Prop := w.heap[b]? = some (.cells cs T (0, 0))

section
variable {w w' : World} {b : Nat} {cs : Array Value} {T : TypeId}
theorem Blk.lt (h : Blk w b cs T) : b < w.heap.size := (Array.getElem?_eq_some_iff.1 h).1
theorem Blk.cell (h : Blk w b cs T) (i : Nat) : w.cell? ⟨b, i, none⟩ = cs[i]? := cell_of_row w b i cs T (0, 0) h
theorem Blk.at (h : Blk w b cs T) {i : Nat} {v : Value} (hv : cs[i]? = some v) : w.cell? ⟨b, i, none⟩ = some v := (h.cell i).trans hv
theorem Blk.free (h : Blk w b cs T) (i : Nat) : w.frozen? ⟨b, i, none⟩ = false := by
  unfold Blk at h
  simp [World.frozen?, h]
theorem Blk.of_eq (h : Blk w b cs T) (e : w'.heap[b]? = w.heap[b]?) : Blk w' b cs T := e.trans h
theorem Blk.below {B : Nat} (h : Blk w b cs T) (hb : Below B w w') (hlt : b < B) : Blk w' b cs T := h.of_eq (hb.block b hlt)
theorem Blk.drew (h : Blk w b cs T) : Blk w.drew b cs T := h
theorem Blk.drewN (h : Blk w b cs T) (k : Nat) : Blk (w.drewN k) b cs T := h
theorem Blk.alloc (h : Blk w b cs T) (o : Obj) : Blk (w.alloc o) b cs T := h.of_eq (Below.heap_alloc w o b h.lt)
theorem Blk.new (w : World) (cs : Array Value) (T : TypeId) : Blk (w.alloc (.cells cs T)) w.heap.size cs T := by
  show (w.heap.push _)[w.heap.size]? = _
  simp
theorem Blk.set (h : Blk w b cs T) (i : Nat) (v : Value) : Blk (w.setCell ⟨b, i, none⟩ v) b (cs.setIfInBounds i v) T := by
  unfold Blk at *
  rw [heap_setCell_same w b i cs T v h]
theorem Blk.other (h : Blk w b cs T) {a : Addr} (hne : ¬ b = a.block) (v : Value) : Blk (w.setCell a v) b cs T := h.of_eq (heap_setCell_other w a b v hne)
end

end Go.Proofs.YtdmmiiniikdapaaFmt
