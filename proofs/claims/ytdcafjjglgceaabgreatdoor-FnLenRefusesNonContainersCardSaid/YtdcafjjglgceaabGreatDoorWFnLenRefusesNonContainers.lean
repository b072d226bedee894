/- The law FnLenRefusesNonContainers walked: the call returns true and writes nothing that was there. Its conditions: none beyond the arguments' types. -/
import Derived.Test.YtdcafjjglgceaabGreatDoorProg
import Derived.Test.YtdcafjjglgceaabGreatDoorBase
import Derived.Test.YtdcafjjglgceaabGreatDoorRows
import Derived.Handy
import Derived.Outline
import Derived.WalkLawsBesides
import Derived.WalkSpells
import Derived.Deep.QuietTactic
import Derived.BigQuiet
import Derived.RegionTactic
import Derived.ChangeAlike
import Derived.Test.YtdcafjjglgceaabGreatDoorLaid
import Derived.MakeChecks
import Derived.Stop.LaidErr
import Derived.LaidEql
namespace Go.Proofs.YtdcafjjglgceaabGreatDoor.fnLenRefusesNonContainers
open Go.RowKit Go.Proofs.YtdcafjjglgceaabGreatDoor
theorem ta29_78 (v : Value) (w : World) : (Instr.typeAssert (.iface 29 v) 24 78 true).run Tryz.prog w = .ok (.tuple #[.pointer none, .bool false]) w := by kernel_rfl
theorem ta29_81 (v : Value) (w : World) : (Instr.typeAssert (.iface 29 v) 24 81 true).run Tryz.prog w = .ok (.tuple #[.pointer none, .bool false]) w := by kernel_rfl
theorem ta29_68 (v : Value) (w : World) : (Instr.typeAssert (.iface 29 v) 24 68 true).run Tryz.prog w = .ok (.tuple #[.pointer none, .bool false]) w := by kernel_rfl
theorem ta29_83 (v : Value) (w : World) : (Instr.typeAssert (.iface 29 v) 24 83 true).run Tryz.prog w = .ok (.tuple #[.pointer none, .bool false]) w := by kernel_rfl
theorem ta29_86 (v : Value) (w : World) : (Instr.typeAssert (.iface 29 v) 24 86 true).run Tryz.prog w = .ok (.tuple #[.pointer none, .bool false]) w := by kernel_rfl
theorem ta29_90 (v : Value) (w : World) : (Instr.typeAssert (.iface 29 v) 24 90 true).run Tryz.prog w = .ok (.tuple #[.pointer none, .bool false]) w := by kernel_rfl
theorem ta34_78 (v : Value) (w : World) : (Instr.typeAssert (.iface 34 v) 24 78 true).run Tryz.prog w = .ok (.tuple #[.pointer none, .bool false]) w := by kernel_rfl
theorem ta34_81 (v : Value) (w : World) : (Instr.typeAssert (.iface 34 v) 24 81 true).run Tryz.prog w = .ok (.tuple #[.pointer none, .bool false]) w := by kernel_rfl
theorem ta34_68 (v : Value) (w : World) : (Instr.typeAssert (.iface 34 v) 24 68 true).run Tryz.prog w = .ok (.tuple #[.pointer none, .bool false]) w := by kernel_rfl
theorem ta34_83 (v : Value) (w : World) : (Instr.typeAssert (.iface 34 v) 24 83 true).run Tryz.prog w = .ok (.tuple #[.pointer none, .bool false]) w := by kernel_rfl
theorem ta34_86 (v : Value) (w : World) : (Instr.typeAssert (.iface 34 v) 24 86 true).run Tryz.prog w = .ok (.tuple #[.pointer none, .bool false]) w := by kernel_rfl
theorem ta34_90 (v : Value) (w : World) : (Instr.typeAssert (.iface 34 v) 24 90 true).run Tryz.prog w = .ok (.tuple #[.pointer none, .bool false]) w := by kernel_rfl
theorem ta38_78 (v : Value) (w : World) : (Instr.typeAssert (.iface 38 v) 24 78 true).run Tryz.prog w = .ok (.tuple #[.pointer none, .bool false]) w := by kernel_rfl
theorem ta38_81 (v : Value) (w : World) : (Instr.typeAssert (.iface 38 v) 24 81 true).run Tryz.prog w = .ok (.tuple #[.pointer none, .bool false]) w := by kernel_rfl
theorem ta38_68 (v : Value) (w : World) : (Instr.typeAssert (.iface 38 v) 24 68 true).run Tryz.prog w = .ok (.tuple #[.pointer none, .bool false]) w := by kernel_rfl
theorem ta38_83 (v : Value) (w : World) : (Instr.typeAssert (.iface 38 v) 24 83 true).run Tryz.prog w = .ok (.tuple #[.pointer none, .bool false]) w := by kernel_rfl
theorem ta38_86 (v : Value) (w : World) : (Instr.typeAssert (.iface 38 v) 24 86 true).run Tryz.prog w = .ok (.tuple #[.pointer none, .bool false]) w := by kernel_rfl
theorem ta38_90 (v : Value) (w : World) : (Instr.typeAssert (.iface 38 v) 24 90 true).run Tryz.prog w = .ok (.tuple #[.pointer none, .bool false]) w := by kernel_rfl
theorem ta41_78 (v : Value) (w : World) : (Instr.typeAssert (.iface 41 v) 24 78 true).run Tryz.prog w = .ok (.tuple #[.pointer none, .bool false]) w := by kernel_rfl
theorem ta41_81 (v : Value) (w : World) : (Instr.typeAssert (.iface 41 v) 24 81 true).run Tryz.prog w = .ok (.tuple #[.pointer none, .bool false]) w := by kernel_rfl
theorem ta41_68 (v : Value) (w : World) : (Instr.typeAssert (.iface 41 v) 24 68 true).run Tryz.prog w = .ok (.tuple #[.pointer none, .bool false]) w := by kernel_rfl
theorem ta41_83 (v : Value) (w : World) : (Instr.typeAssert (.iface 41 v) 24 83 true).run Tryz.prog w = .ok (.tuple #[.pointer none, .bool false]) w := by kernel_rfl
theorem ta41_86 (v : Value) (w : World) : (Instr.typeAssert (.iface 41 v) 24 86 true).run Tryz.prog w = .ok (.tuple #[.pointer none, .bool false]) w := by kernel_rfl
theorem ta41_90 (v : Value) (w : World) : (Instr.typeAssert (.iface 41 v) 24 90 true).run Tryz.prog w = .ok (.tuple #[.pointer none, .bool false]) w := by kernel_rfl
theorem ta44_78 (v : Value) (w : World) : (Instr.typeAssert (.iface 44 v) 24 78 true).run Tryz.prog w = .ok (.tuple #[.pointer none, .bool false]) w := by kernel_rfl
theorem ta44_81 (v : Value) (w : World) : (Instr.typeAssert (.iface 44 v) 24 81 true).run Tryz.prog w = .ok (.tuple #[.pointer none, .bool false]) w := by kernel_rfl
theorem ta44_68 (v : Value) (w : World) : (Instr.typeAssert (.iface 44 v) 24 68 true).run Tryz.prog w = .ok (.tuple #[.pointer none, .bool false]) w := by kernel_rfl
theorem ta44_83 (v : Value) (w : World) : (Instr.typeAssert (.iface 44 v) 24 83 true).run Tryz.prog w = .ok (.tuple #[.pointer none, .bool false]) w := by kernel_rfl
theorem ta44_86 (v : Value) (w : World) : (Instr.typeAssert (.iface 44 v) 24 86 true).run Tryz.prog w = .ok (.tuple #[.pointer none, .bool false]) w := by kernel_rfl
theorem ta44_90 (v : Value) (w : World) : (Instr.typeAssert (.iface 44 v) 24 90 true).run Tryz.prog w = .ok (.tuple #[.pointer none, .bool false]) w := by kernel_rfl
theorem ta51_78 (v : Value) (w : World) : (Instr.typeAssert (.iface 51 v) 24 78 true).run Tryz.prog w = .ok (.tuple #[.pointer none, .bool false]) w := by kernel_rfl
theorem ta51_81 (v : Value) (w : World) : (Instr.typeAssert (.iface 51 v) 24 81 true).run Tryz.prog w = .ok (.tuple #[.pointer none, .bool false]) w := by kernel_rfl
theorem ta51_68 (v : Value) (w : World) : (Instr.typeAssert (.iface 51 v) 24 68 true).run Tryz.prog w = .ok (.tuple #[.pointer none, .bool false]) w := by kernel_rfl
theorem ta51_83 (v : Value) (w : World) : (Instr.typeAssert (.iface 51 v) 24 83 true).run Tryz.prog w = .ok (.tuple #[.pointer none, .bool false]) w := by kernel_rfl
theorem ta51_86 (v : Value) (w : World) : (Instr.typeAssert (.iface 51 v) 24 86 true).run Tryz.prog w = .ok (.tuple #[.pointer none, .bool false]) w := by kernel_rfl
theorem ta51_90 (v : Value) (w : World) : (Instr.typeAssert (.iface 51 v) 24 90 true).run Tryz.prog w = .ok (.tuple #[.pointer none, .bool false]) w := by kernel_rfl
theorem ta54_78 (v : Value) (w : World) : (Instr.typeAssert (.iface 54 v) 24 78 true).run Tryz.prog w = .ok (.tuple #[.pointer none, .bool false]) w := by kernel_rfl
theorem ta54_81 (v : Value) (w : World) : (Instr.typeAssert (.iface 54 v) 24 81 true).run Tryz.prog w = .ok (.tuple #[.pointer none, .bool false]) w := by kernel_rfl
theorem ta54_68 (v : Value) (w : World) : (Instr.typeAssert (.iface 54 v) 24 68 true).run Tryz.prog w = .ok (.tuple #[.pointer none, .bool false]) w := by kernel_rfl
theorem ta54_83 (v : Value) (w : World) : (Instr.typeAssert (.iface 54 v) 24 83 true).run Tryz.prog w = .ok (.tuple #[.pointer none, .bool false]) w := by kernel_rfl
theorem ta54_86 (v : Value) (w : World) : (Instr.typeAssert (.iface 54 v) 24 86 true).run Tryz.prog w = .ok (.tuple #[.pointer none, .bool false]) w := by kernel_rfl
theorem ta54_90 (v : Value) (w : World) : (Instr.typeAssert (.iface 54 v) 24 90 true).run Tryz.prog w = .ok (.tuple #[.pointer none, .bool false]) w := by kernel_rfl
theorem ta57_78 (v : Value) (w : World) : (Instr.typeAssert (.iface 57 v) 24 78 true).run Tryz.prog w = .ok (.tuple #[.pointer none, .bool false]) w := by kernel_rfl
theorem ta57_81 (v : Value) (w : World) : (Instr.typeAssert (.iface 57 v) 24 81 true).run Tryz.prog w = .ok (.tuple #[.pointer none, .bool false]) w := by kernel_rfl
theorem ta57_68 (v : Value) (w : World) : (Instr.typeAssert (.iface 57 v) 24 68 true).run Tryz.prog w = .ok (.tuple #[.pointer none, .bool false]) w := by kernel_rfl
theorem ta57_83 (v : Value) (w : World) : (Instr.typeAssert (.iface 57 v) 24 83 true).run Tryz.prog w = .ok (.tuple #[.pointer none, .bool false]) w := by kernel_rfl
theorem ta57_86 (v : Value) (w : World) : (Instr.typeAssert (.iface 57 v) 24 86 true).run Tryz.prog w = .ok (.tuple #[.pointer none, .bool false]) w := by kernel_rfl
theorem ta57_90 (v : Value) (w : World) : (Instr.typeAssert (.iface 57 v) 24 90 true).run Tryz.prog w = .ok (.tuple #[.pointer none, .bool false]) w := by kernel_rfl
theorem ta63_78 (v : Value) (w : World) : (Instr.typeAssert (.iface 63 v) 24 78 true).run Tryz.prog w = .ok (.tuple #[.pointer none, .bool false]) w := by kernel_rfl
theorem ta63_81 (v : Value) (w : World) : (Instr.typeAssert (.iface 63 v) 24 81 true).run Tryz.prog w = .ok (.tuple #[.pointer none, .bool false]) w := by kernel_rfl
theorem ta63_68 (v : Value) (w : World) : (Instr.typeAssert (.iface 63 v) 24 68 true).run Tryz.prog w = .ok (.tuple #[.pointer none, .bool false]) w := by kernel_rfl
theorem ta63_83 (v : Value) (w : World) : (Instr.typeAssert (.iface 63 v) 24 83 true).run Tryz.prog w = .ok (.tuple #[.pointer none, .bool false]) w := by kernel_rfl
theorem ta63_86 (v : Value) (w : World) : (Instr.typeAssert (.iface 63 v) 24 86 true).run Tryz.prog w = .ok (.tuple #[.pointer none, .bool false]) w := by kernel_rfl
theorem ta63_90 (v : Value) (w : World) : (Instr.typeAssert (.iface 63 v) 24 90 true).run Tryz.prog w = .ok (.tuple #[.pointer none, .bool false]) w := by kernel_rfl
theorem ta66_78 (v : Value) (w : World) : (Instr.typeAssert (.iface 66 v) 24 78 true).run Tryz.prog w = .ok (.tuple #[.pointer none, .bool false]) w := by kernel_rfl
theorem ta66_81 (v : Value) (w : World) : (Instr.typeAssert (.iface 66 v) 24 81 true).run Tryz.prog w = .ok (.tuple #[.pointer none, .bool false]) w := by kernel_rfl
theorem ta66_68 (v : Value) (w : World) : (Instr.typeAssert (.iface 66 v) 24 68 true).run Tryz.prog w = .ok (.tuple #[.pointer none, .bool false]) w := by kernel_rfl
theorem ta66_83 (v : Value) (w : World) : (Instr.typeAssert (.iface 66 v) 24 83 true).run Tryz.prog w = .ok (.tuple #[.pointer none, .bool false]) w := by kernel_rfl
theorem ta66_86 (v : Value) (w : World) : (Instr.typeAssert (.iface 66 v) 24 86 true).run Tryz.prog w = .ok (.tuple #[.pointer none, .bool false]) w := by kernel_rfl
theorem ta66_90 (v : Value) (w : World) : (Instr.typeAssert (.iface 66 v) 24 90 true).run Tryz.prog w = .ok (.tuple #[.pointer none, .bool false]) w := by kernel_rfl
theorem taIA (v : Value) (w : World) : (Instr.typeAssert (.iface 74 v) 26 74 true).run Tryz.prog w = .ok (.tuple #[v, .bool true]) w := by kernel_rfl
attribute [local go_sem] ta29_78 ta29_81 ta29_68 ta29_83 ta29_86 ta29_90 ta34_78 ta34_81 ta34_68 ta34_83 ta34_86 ta34_90 ta38_78 ta38_81 ta38_68 ta38_83 ta38_86 ta38_90 ta41_78 ta41_81 ta41_68 ta41_83 ta41_86 ta41_90 ta44_78 ta44_81 ta44_68 ta44_83 ta44_86 ta44_90 ta51_78 ta51_81 ta51_68 ta51_83 ta51_86 ta51_90 ta54_78 ta54_81 ta54_68 ta54_83 ta54_86 ta54_90 ta57_78 ta57_81 ta57_68 ta57_83 ta57_86 ta57_90 ta63_78 ta63_81 ta63_68 ta63_83 ta63_86 ta63_90 ta66_78 ta66_81 ta66_68 ta66_83 ta66_86 ta66_90 taIA
theorem star : "*" ++ "errors.errorString" = "*errors.errorString" := by decide
theorem rowE (u : TypeId) (h : Tryz.prog.typeName? 3 u = some "*errors.errorString") : u = 93 :=
  typeName_ptr_named (nm := "errors.errorString") (by rw [star]; kernel_rfl) (by kernel_rfl) (by decide) u (by rw [star]; exact h)
theorem gE : Tryz.prog.globalNamed "github.com/d5/tengo/v2.ErrWrongNumArguments" = some 0 := by kernel_rfl
theorem errCell {w : World} (hL : laidMetH Tryz.prog Rows.fnLenRefusesNonContainersRow.laid w) : ∃ a, w.cell? ⟨0, 0, none⟩ = some (.iface 93 (.pointer (some a))) := by
  rw [MakeChecks.laidMetH_plain _ _ _ (by kernel_rfl)] at hL
  obtain ⟨a, s, hv, _⟩ := laid_sentinel (tp := 93) (te := 126) (ts := 9) (ti := 26) hL gE (by kernel_rfl) Tryz.underlying26 rowE Tryz.underlying93 Tryz.underlying126 rfl rfl Tryz.underlying9 (by kernel_rfl) (by kernel_rfl)
  exact ⟨a, by rw [var_cell gE hv]; rfl⟩
theorem infoE : (Tryz.prog.info? 93).map (·.comparable) = some true := by kernel_rfl
theorem infoT : (Tryz.prog.info? 126).isSome = true := by kernel_rfl
theorem info_parts1 {x : Option TypeInfo} (h : x.map (·.comparable) = some true) : ∃ i, x = some i ∧ i.comparable = true := by
  cases x with
  | none => cases h
  | some i => exact ⟨i, rfl, by simpa using h⟩
set_option maxRecDepth 100000 in
set_option linter.unusedVariables false in
set_option maxHeartbeats 2000000 in
theorem k0 (a1 : Int) (a2 : ByteArray) (w : World) (a : Addr) (w1 : (Lit.int .i64 a1).wf = true) (w2 : a2.size ≤ 65536) (hE : w.cell? ⟨0, 0, none⟩ = some (.iface 93 (.pointer (some a)))) (hE1 : 0 < w.heap.size) :
    Calls Tryz.prog 3 #[.int .i64 0, .int .i64 a1, .string a2] w fun e w' => e = .returned (.bool true) ∧ Below w.heap.size w w' := by
  go_enter Tryz.func3, Tryz.ntmps3
  go_wp2
  go_ret
  refine ⟨by simp, ?_⟩
  go_grown
set_option maxRecDepth 100000 in
set_option linter.unusedVariables false in
set_option maxHeartbeats 2000000 in
theorem k1 (a1 : Int) (a2 : ByteArray) (w : World) (a : Addr) (w1 : (Lit.int .i64 a1).wf = true) (w2 : a2.size ≤ 65536) (hE : w.cell? ⟨0, 0, none⟩ = some (.iface 93 (.pointer (some a)))) (hE1 : 0 < w.heap.size) :
    Calls Tryz.prog 3 #[.int .i64 1, .int .i64 a1, .string a2] w fun e w' => e = .returned (.bool true) ∧ Below w.heap.size w w' := by
  go_enter Tryz.func3, Tryz.ntmps3
  go_wp2
  go_ret
  refine ⟨by simp, ?_⟩
  go_grown
set_option maxRecDepth 100000 in
set_option linter.unusedVariables false in
set_option maxHeartbeats 2000000 in
theorem k2 (a1 : Int) (a2 : ByteArray) (w : World) (a : Addr) (w1 : (Lit.int .i64 a1).wf = true) (w2 : a2.size ≤ 65536) (hE : w.cell? ⟨0, 0, none⟩ = some (.iface 93 (.pointer (some a)))) (hE1 : 0 < w.heap.size) :
    Calls Tryz.prog 3 #[.int .i64 2, .int .i64 a1, .string a2] w fun e w' => e = .returned (.bool true) ∧ Below w.heap.size w w' := by
  go_enter Tryz.func3, Tryz.ntmps3
  go_wp2
  go_ret
  refine ⟨by simp, ?_⟩
  go_grown
set_option maxRecDepth 100000 in
set_option linter.unusedVariables false in
set_option maxHeartbeats 2000000 in
theorem k3 (a1 : Int) (a2 : ByteArray) (w : World) (a : Addr) (w1 : (Lit.int .i64 a1).wf = true) (w2 : a2.size ≤ 65536) (hE : w.cell? ⟨0, 0, none⟩ = some (.iface 93 (.pointer (some a)))) (hE1 : 0 < w.heap.size) :
    Calls Tryz.prog 3 #[.int .i64 3, .int .i64 a1, .string a2] w fun e w' => e = .returned (.bool true) ∧ Below w.heap.size w w' := by
  go_enter Tryz.func3, Tryz.ntmps3
  go_wp2
  go_ret
  refine ⟨by simp, ?_⟩
  go_grown
set_option maxRecDepth 100000 in
set_option linter.unusedVariables false in
set_option maxHeartbeats 2000000 in
theorem k4 (a1 : Int) (a2 : ByteArray) (w : World) (a : Addr) (w1 : (Lit.int .i64 a1).wf = true) (w2 : a2.size ≤ 65536) (hE : w.cell? ⟨0, 0, none⟩ = some (.iface 93 (.pointer (some a)))) (hE1 : 0 < w.heap.size) :
    Calls Tryz.prog 3 #[.int .i64 4, .int .i64 a1, .string a2] w fun e w' => e = .returned (.bool true) ∧ Below w.heap.size w w' := by
  go_enter Tryz.func3, Tryz.ntmps3
  go_wp2
  go_ret
  refine ⟨by simp, ?_⟩
  go_grown
set_option maxRecDepth 100000 in
set_option linter.unusedVariables false in
set_option maxHeartbeats 2000000 in
theorem k5 (a1 : Int) (a2 : ByteArray) (w : World) (a : Addr) (w1 : (Lit.int .i64 a1).wf = true) (w2 : a2.size ≤ 65536) (hE : w.cell? ⟨0, 0, none⟩ = some (.iface 93 (.pointer (some a)))) (hE1 : 0 < w.heap.size) :
    Calls Tryz.prog 3 #[.int .i64 5, .int .i64 a1, .string a2] w fun e w' => e = .returned (.bool true) ∧ Below w.heap.size w w' := by
  go_enter Tryz.func3, Tryz.ntmps3
  go_wp2
  go_ret
  refine ⟨by simp, ?_⟩
  go_grown
set_option maxRecDepth 100000 in
set_option linter.unusedVariables false in
set_option maxHeartbeats 2000000 in
theorem k6 (a1 : Int) (a2 : ByteArray) (w : World) (a : Addr) (w1 : (Lit.int .i64 a1).wf = true) (w2 : a2.size ≤ 65536) (hE : w.cell? ⟨0, 0, none⟩ = some (.iface 93 (.pointer (some a)))) (hE1 : 0 < w.heap.size) :
    Calls Tryz.prog 3 #[.int .i64 6, .int .i64 a1, .string a2] w fun e w' => e = .returned (.bool true) ∧ Below w.heap.size w w' := by
  go_enter Tryz.func3, Tryz.ntmps3
  go_wp2
  go_ret
  refine ⟨by simp, ?_⟩
  go_grown
set_option maxRecDepth 100000 in
set_option linter.unusedVariables false in
set_option maxHeartbeats 2000000 in
theorem k7 (a1 : Int) (a2 : ByteArray) (w : World) (a : Addr) (w1 : (Lit.int .i64 a1).wf = true) (w2 : a2.size ≤ 65536) (hE : w.cell? ⟨0, 0, none⟩ = some (.iface 93 (.pointer (some a)))) (hE1 : 0 < w.heap.size) :
    Calls Tryz.prog 3 #[.int .i64 7, .int .i64 a1, .string a2] w fun e w' => e = .returned (.bool true) ∧ Below w.heap.size w w' := by
  go_enter Tryz.func3, Tryz.ntmps3
  go_wp2
  go_ret
  refine ⟨by simp, ?_⟩
  go_grown
set_option maxRecDepth 100000 in
set_option linter.unusedVariables false in
set_option maxHeartbeats 2000000 in
theorem k8 (a1 : Int) (a2 : ByteArray) (w : World) (a : Addr) (w1 : (Lit.int .i64 a1).wf = true) (w2 : a2.size ≤ 65536) (hE : w.cell? ⟨0, 0, none⟩ = some (.iface 93 (.pointer (some a)))) (hE1 : 0 < w.heap.size) :
    Calls Tryz.prog 3 #[.int .i64 8, .int .i64 a1, .string a2] w fun e w' => e = .returned (.bool true) ∧ Below w.heap.size w w' := by
  go_enter Tryz.func3, Tryz.ntmps3
  go_wp2
  go_ret
  refine ⟨by simp, ?_⟩
  go_grown
set_option maxRecDepth 100000 in
set_option linter.unusedVariables false in
set_option maxHeartbeats 2000000 in
theorem k9 (a1 : Int) (a2 : ByteArray) (w : World) (a : Addr) (w1 : (Lit.int .i64 a1).wf = true) (w2 : a2.size ≤ 65536) (hE : w.cell? ⟨0, 0, none⟩ = some (.iface 93 (.pointer (some a)))) (hE1 : 0 < w.heap.size) :
    Calls Tryz.prog 3 #[.int .i64 9, .int .i64 a1, .string a2] w fun e w' => e = .returned (.bool true) ∧ Below w.heap.size w w' := by
  go_enter Tryz.func3, Tryz.ntmps3
  go_wp2
  go_ret
  refine ⟨by simp, ?_⟩
  go_grown
set_option maxRecDepth 100000 in
set_option linter.unusedVariables false in
set_option maxHeartbeats 2000000 in
theorem k10 (a1 : Int) (a2 : ByteArray) (w : World) (a : Addr) (w1 : (Lit.int .i64 a1).wf = true) (w2 : a2.size ≤ 65536) (hE : w.cell? ⟨0, 0, none⟩ = some (.iface 93 (.pointer (some a)))) (hE1 : 0 < w.heap.size) :
    Calls Tryz.prog 3 #[.int .i64 10, .int .i64 a1, .string a2] w fun e w' => e = .returned (.bool true) ∧ Below w.heap.size w w' := by
  obtain ⟨i, hi, hcmp⟩ : ∃ i, Tryz.prog.info? 93 = some i ∧ i.comparable = true := info_parts1 infoE
  obtain ⟨i2, hi2⟩ : ∃ i, Tryz.prog.info? 126 = some i := Option.isSome_iff_exists.1 infoT
  have heq := fun w => run_eql_iface_ptr_same (P := Tryz.prog) w a Tryz.underlying26 Tryz.underlying93 hi hcmp hi2
  clear hi hcmp hi2
  go_enter Tryz.func3, Tryz.ntmps3
  go_wp2
  go_quiet (fail)
  go_wp2
  go_ret
  refine ⟨by simp, ?_⟩
  first | exact below_drewN (by go_grown) _ | go_grown
set_option maxRecDepth 100000 in
set_option linter.unusedVariables false in
set_option maxHeartbeats 2000000 in
theorem k11 (a1 : Int) (a2 : ByteArray) (w : World) (a : Addr) (w1 : (Lit.int .i64 a1).wf = true) (w2 : a2.size ≤ 65536) (hE : w.cell? ⟨0, 0, none⟩ = some (.iface 93 (.pointer (some a)))) (hE1 : 0 < w.heap.size) :
    Calls Tryz.prog 3 #[.int .i64 11, .int .i64 a1, .string a2] w fun e w' => e = .returned (.bool true) ∧ Below w.heap.size w w' := by
  obtain ⟨i, hi, hcmp⟩ : ∃ i, Tryz.prog.info? 93 = some i ∧ i.comparable = true := info_parts1 infoE
  obtain ⟨i2, hi2⟩ : ∃ i, Tryz.prog.info? 126 = some i := Option.isSome_iff_exists.1 infoT
  have heq := fun w => run_eql_iface_ptr_same (P := Tryz.prog) w a Tryz.underlying26 Tryz.underlying93 hi hcmp hi2
  clear hi hcmp hi2
  go_enter Tryz.func3, Tryz.ntmps3
  go_wp2
  go_quiet (fail)
  go_wp2
  go_ret
  refine ⟨by simp, ?_⟩
  first | exact below_drewN (by go_grown) _ | go_grown
set_option maxRecDepth 100000 in
set_option linter.unusedVariables false in
set_option maxHeartbeats 2000000 in
theorem walk (a0 : Int) (a1 : Int) (a2 : ByteArray) (w : World) (w0 : (Lit.int .i64 a0).wf = true) (w1 : (Lit.int .i64 a1).wf = true) (w2 : a2.size ≤ maxLen) (hL : laidMetH Tryz.prog Rows.fnLenRefusesNonContainersRow.laid w) :
    Calls Tryz.prog 3 #[.int .i64 a0, .int .i64 a1, .string a2] w fun e w' => e = .returned (.bool true) ∧ Below w.heap.size w w' := by
  have hb1 := w0
  have hb := bounds_i64 w0
  unfold maxLen at w2
  obtain ⟨a, hE⟩ := errCell hL
  have hE1 : 0 < w.heap.size := World.block_lt_of_cell? w _ hE
  by_cases hs : a2.size ≤ 65536
  · by_cases hk : 0 ≤ a0 ∧ a0 ≤ 11
    · obtain ⟨h0, h11⟩ := hk
      by_cases e0 : a0 = 0
      · subst e0; exact k0 a1 a2 w a w1 hs hE hE1
      by_cases e1 : a0 = 1
      · subst e1; exact k1 a1 a2 w a w1 hs hE hE1
      by_cases e2 : a0 = 2
      · subst e2; exact k2 a1 a2 w a w1 hs hE hE1
      by_cases e3 : a0 = 3
      · subst e3; exact k3 a1 a2 w a w1 hs hE hE1
      by_cases e4 : a0 = 4
      · subst e4; exact k4 a1 a2 w a w1 hs hE hE1
      by_cases e5 : a0 = 5
      · subst e5; exact k5 a1 a2 w a w1 hs hE hE1
      by_cases e6 : a0 = 6
      · subst e6; exact k6 a1 a2 w a w1 hs hE hE1
      by_cases e7 : a0 = 7
      · subst e7; exact k7 a1 a2 w a w1 hs hE hE1
      by_cases e8 : a0 = 8
      · subst e8; exact k8 a1 a2 w a w1 hs hE hE1
      by_cases e9 : a0 = 9
      · subst e9; exact k9 a1 a2 w a w1 hs hE hE1
      by_cases e10 : a0 = 10
      · subst e10; exact k10 a1 a2 w a w1 hs hE hE1
      by_cases e11 : a0 = 11
      · subst e11; exact k11 a1 a2 w a w1 hs hE hE1
      omega
    · clear hL hE
      by_cases hn : a0 < 0
      · go_enter Tryz.func3, Tryz.ntmps3
        go_wp2
        all_goals go_ret
        all_goals exact ⟨rfl, Below.refl _ _⟩
      · have hn2 : 11 < a0 := by omega
        go_enter Tryz.func3, Tryz.ntmps3
        go_wp2
        all_goals go_ret
        all_goals exact ⟨rfl, Below.refl _ _⟩
  · clear hL hE
    go_enter Tryz.func3, Tryz.ntmps3
    go_wp2
    all_goals go_ret
    all_goals exact ⟨rfl, Below.refl _ _⟩
end Go.Proofs.YtdcafjjglgceaabGreatDoor.fnLenRefusesNonContainers
