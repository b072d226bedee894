/- The address of an embedded struct without cells, at the head of a new block: the block's own. -/
import Derived.Test.YtfcghckaikkjbaaDoorParts
namespace Go.Proofs.YtfcghckaikkjbaaDoor
open Go.RowKit
theorem run_viewAt_cells {W : World} {b T : Nat} {cs : Array Value} (hb : Blk W b cs T) : (viewAt b).run Tryd.prog W = .ok none W := by
  have h1 : W.shape? b = some (T, cs.size) := by unfold Blk at hb; simp [World.shape?, hb]
  simp [viewAt, h1]
theorem byteFirst {W : World} {b T : Nat} {cs : Array Value} (hb : Blk W b cs T) (hc : Tryd.prog.cellsOf T = 1) (hy : byteOfCell Tryd.prog Tryd.prog.depth T 0 = some 0) : (byteOf ⟨b, 0, none⟩).run Tryd.prog W = .ok 0 W := by
  have h1 : W.shape? b = some (T, cs.size) := by unfold Blk at hb; simp [World.shape?, hb]
  simp [byteOf, noView, run_viewAt_cells hb, h1, hc, hy]
theorem fieldFirst {T : TypeId} {fs : Array Field} {f : Field} (hu : Tryd.prog.underlying T = some (.struct fs)) (hf : fs[0]? = some f) (h0 : f.offset = 0) (hb0 : f.byteOffset = 0) (hz : ∀ W : World, (sizeOf f.type).run Tryd.prog W = .ok 0 W) (hc : Tryd.prog.cellsOf T = 1) (hy : byteOfCell Tryd.prog Tryd.prog.depth T 0 = some 0) (cs : Array Value) (w : World) :
    (Instr.fieldAt T (.pointer (some ⟨w.heap.size, 0, none⟩)) 0).run Tryd.prog (w.alloc (.cells cs T)) = .ok (.pointer (some ⟨w.heap.size, 0, none⟩)) (w.alloc (.cells cs T)) := by
  have hb := Blk.new w cs T
  generalize w.alloc (.cells cs T) = W at *
  generalize w.heap.size = b at *
  simp [Instr.fieldAt, run_underlying hu, hf, Instr.sureAddr, fieldPlace, hz, partAt, byteFirst hb hc hy, h0, hb0]
theorem size30 (W : World) : (sizeOf 30).run Tryd.prog W = .ok 0 W := by kernel_rfl
theorem fa37 (v : Value) (w : World) : (Instr.fieldAt 37 (.pointer (some ⟨w.heap.size, 0, none⟩)) 0).run Tryd.prog (w.alloc (.cells #[v] 37)) = .ok (.pointer (some ⟨w.heap.size, 0, none⟩)) (w.alloc (.cells #[v] 37)) := fieldFirst Tryd.underlying37 rfl rfl rfl size30 (by kernel_rfl) (by kernel_rfl) _ w
theorem fa45 (v : Value) (w : World) : (Instr.fieldAt 45 (.pointer (some ⟨w.heap.size, 0, none⟩)) 0).run Tryd.prog (w.alloc (.cells #[v] 45)) = .ok (.pointer (some ⟨w.heap.size, 0, none⟩)) (w.alloc (.cells #[v] 45)) := fieldFirst Tryd.underlying45 rfl rfl rfl size30 (by kernel_rfl) (by kernel_rfl) _ w
theorem fa32 (v : Value) (w : World) : (Instr.fieldAt 32 (.pointer (some ⟨w.heap.size, 0, none⟩)) 0).run Tryd.prog (w.alloc (.cells #[v] 32)) = .ok (.pointer (some ⟨w.heap.size, 0, none⟩)) (w.alloc (.cells #[v] 32)) := fieldFirst Tryd.underlying32 rfl rfl rfl size30 (by kernel_rfl) (by kernel_rfl) _ w
theorem wpList_fieldFirst {P : Program} {w : World} {ops : Array Oper} {rest : List Oper} {o : Oper} {a : Act} {Q : Exit → Act → World → Prop} (hgd : o.guard = none) (T : TypeId) (s : Operand) (ho : o.op = .fieldAddr T s 0) (b : Nat) (hs : a.eval s = .pointer (some ⟨b, 0, none⟩))
    (hr : (Instr.fieldAt T (.pointer (some ⟨b, 0, none⟩)) 0).run P w = .ok (.pointer (some ⟨b, 0, none⟩)) w) (h : wpList P ops Q rest (a.put o.dst (.pointer (some ⟨b, 0, none⟩))) w) : wpList P ops Q (o :: rest) a w := by
  refine wpList_plain hgd fun K hK => ?_
  unfold Oper.wp execOp
  simp only [ho, Sem.run_bind, Sem.run_pure, Result.andThen_ok, hs, hr]
  exact hK _ _ h
set_option maxHeartbeats 1000000 in
theorem idxSet (a : Addr) (p x y : Value) (w : World) (hE : w.cell? ⟨0, 0, none⟩ = some (.iface 63 (.pointer (some a)))) :
    Calls Tryd.prog 8 #[p, x, y] w fun e w' => e = .returned (.iface 63 (.pointer (some a))) ∧ w = w' := by
  go_enter Tryd.func8, Tryd.ntmps8
  go_wp2
  go_ret
  exact ⟨rfl, rfl⟩
end Go.Proofs.YtfcghckaikkjbaaDoor
