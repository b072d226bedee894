/- The law FnRangeRefusals walked: the call returns true and writes nothing that was there. Its conditions: none beyond the arguments' types. -/
import Derived.Test.YtdcafjjglgceaadDoorProg
import Derived.Test.YtdcafjjglgceaadDoorBase
import Derived.Test.YtdcafjjglgceaadDoorRows
import Derived.Handy
import Derived.Outline
import Derived.WalkLawsBesides
import Derived.WalkSpells
import Derived.Deep.QuietTactic
import Derived.BigQuiet
import Derived.RegionTactic
import Derived.ChangeAlike
import Derived.Test.YtdcafjjglgceaadDoorLaid
import Derived.MakeChecks
import Derived.Stop.LaidErr
import Derived.LaidEql
namespace Go.Proofs.YtdcafjjglgceaadDoor.fnRangeRefusals
open Go.RowKit Go.Proofs.YtdcafjjglgceaadDoor
theorem taI (v : Value) (w : World) : (Instr.typeAssert (.iface 23 v) 33 23 true).run Tryd.prog w = .ok (.tuple #[v, .bool true]) w := by kernel_rfl
theorem taS (v : Value) (w : World) : (Instr.typeAssert (.iface 28 v) 33 23 true).run Tryd.prog w = .ok (.tuple #[.pointer none, .bool false]) w := by kernel_rfl
theorem taIA (v : Value) (w : World) : (Instr.typeAssert (.iface 39 v) 35 39 true).run Tryd.prog w = .ok (.tuple #[v, .bool true]) w := by kernel_rfl
attribute [local go_sem] taI taS taIA
theorem star : "*" ++ "errors.errorString" = "*errors.errorString" := by decide
theorem rowE (u : TypeId) (h : Tryd.prog.typeName? 3 u = some "*errors.errorString") : u = 50 :=
  typeName_ptr_named (nm := "errors.errorString") (by rw [star]; kernel_rfl) (by kernel_rfl) (by decide) u (by rw [star]; exact h)
theorem gE : Tryd.prog.globalNamed "github.com/d5/tengo/v2.ErrWrongNumArguments" = some 0 := by kernel_rfl
theorem errCell {w : World} (hL : laidMetH Tryd.prog Rows.fnRangeRefusalsRow.laid w) : ∃ a, w.cell? ⟨0, 0, none⟩ = some (.iface 50 (.pointer (some a))) := by
  rw [MakeChecks.laidMetH_plain _ _ _ (by kernel_rfl)] at hL
  obtain ⟨a, s, hv, _⟩ := laid_sentinel (tp := 50) (te := 76) (ts := 9) (ti := 35) hL gE (by kernel_rfl) Tryd.underlying35 rowE Tryd.underlying50 Tryd.underlying76 rfl rfl Tryd.underlying9 (by kernel_rfl) (by kernel_rfl)
  exact ⟨a, by rw [var_cell gE hv]; rfl⟩
theorem infoE : (Tryd.prog.info? 50).map (·.comparable) = some true := by kernel_rfl
theorem infoT : (Tryd.prog.info? 76).isSome = true := by kernel_rfl
theorem info_parts1 {x : Option TypeInfo} (h : x.map (·.comparable) = some true) : ∃ i, x = some i ∧ i.comparable = true := by
  cases x with
  | none => cases h
  | some i => exact ⟨i, rfl, by simpa using h⟩
set_option maxRecDepth 100000 in
set_option linter.unusedVariables false in
set_option maxHeartbeats 2000000 in
theorem c20 (a2 a3 a4 : Int) (a5 : ByteArray) (w : World) (a : Addr) (w5 : a5.size ≤ 65536) (hE : w.cell? ⟨0, 0, none⟩ = some (.iface 50 (.pointer (some a)))) (hE1 : 0 < w.heap.size) :
    Calls Tryd.prog 3 #[.int .i64 2, .int .i64 0, .int .i64 a2, .int .i64 a3, .int .i64 a4, .string a5] w fun e w' => e = .returned (.bool true) ∧ Below w.heap.size w w' := by
  go_enter Tryd.func3, Tryd.ntmps3
  go_wp2
  refine wp_loop_rounds 1 ?_
  rw [rounds_succ]
  go_wp2
  go_ret
  refine ⟨by simp, ?_⟩
  go_grown
set_option maxRecDepth 100000 in
set_option linter.unusedVariables false in
set_option maxHeartbeats 2000000 in
theorem c21 (a2 a3 a4 : Int) (a5 : ByteArray) (w : World) (a : Addr) (w5 : a5.size ≤ 65536) (hE : w.cell? ⟨0, 0, none⟩ = some (.iface 50 (.pointer (some a)))) (hE1 : 0 < w.heap.size) :
    Calls Tryd.prog 3 #[.int .i64 2, .int .i64 1, .int .i64 a2, .int .i64 a3, .int .i64 a4, .string a5] w fun e w' => e = .returned (.bool true) ∧ Below w.heap.size w w' := by
  go_enter Tryd.func3, Tryd.ntmps3
  go_wp2
  refine wp_loop_rounds 2 ?_
  rw [rounds_succ]
  go_wp2
  rw [rounds_succ]
  go_wp2
  go_ret
  refine ⟨by simp, ?_⟩
  go_grown
set_option maxRecDepth 100000 in
set_option linter.unusedVariables false in
set_option maxHeartbeats 2000000 in
theorem c30 (a2 a3 a4 : Int) (a5 : ByteArray) (w : World) (a : Addr) (w5 : a5.size ≤ 65536) (hE : w.cell? ⟨0, 0, none⟩ = some (.iface 50 (.pointer (some a)))) (hE1 : 0 < w.heap.size) :
    Calls Tryd.prog 3 #[.int .i64 3, .int .i64 0, .int .i64 a2, .int .i64 a3, .int .i64 a4, .string a5] w fun e w' => e = .returned (.bool true) ∧ Below w.heap.size w w' := by
  go_enter Tryd.func3, Tryd.ntmps3
  go_wp2
  refine wp_loop_rounds 1 ?_
  rw [rounds_succ]
  go_wp2
  go_ret
  refine ⟨by simp, ?_⟩
  go_grown
set_option maxRecDepth 100000 in
set_option linter.unusedVariables false in
set_option maxHeartbeats 2000000 in
theorem c31 (a2 a3 a4 : Int) (a5 : ByteArray) (w : World) (a : Addr) (w5 : a5.size ≤ 65536) (hE : w.cell? ⟨0, 0, none⟩ = some (.iface 50 (.pointer (some a)))) (hE1 : 0 < w.heap.size) :
    Calls Tryd.prog 3 #[.int .i64 3, .int .i64 1, .int .i64 a2, .int .i64 a3, .int .i64 a4, .string a5] w fun e w' => e = .returned (.bool true) ∧ Below w.heap.size w w' := by
  go_enter Tryd.func3, Tryd.ntmps3
  go_wp2
  refine wp_loop_rounds 2 ?_
  rw [rounds_succ]
  go_wp2
  rw [rounds_succ]
  go_wp2
  go_ret
  refine ⟨by simp, ?_⟩
  go_grown
set_option maxRecDepth 100000 in
set_option linter.unusedVariables false in
set_option maxHeartbeats 2000000 in
theorem c32 (a2 a3 a4 : Int) (a5 : ByteArray) (w : World) (a : Addr) (w5 : a5.size ≤ 65536) (hE : w.cell? ⟨0, 0, none⟩ = some (.iface 50 (.pointer (some a)))) (hE1 : 0 < w.heap.size) :
    Calls Tryd.prog 3 #[.int .i64 3, .int .i64 2, .int .i64 a2, .int .i64 a3, .int .i64 a4, .string a5] w fun e w' => e = .returned (.bool true) ∧ Below w.heap.size w w' := by
  go_enter Tryd.func3, Tryd.ntmps3
  go_wp2
  refine wp_loop_rounds 3 ?_
  rw [rounds_succ]
  go_wp2
  rw [rounds_succ]
  go_wp2
  rw [rounds_succ]
  go_wp2
  go_ret
  refine ⟨by simp, ?_⟩
  go_grown
set_option maxRecDepth 100000 in
set_option linter.unusedVariables false in
set_option maxHeartbeats 2000000 in
theorem n0 (a1 : Int) (a2 a3 a4 : Int) (a5 : ByteArray) (w : World) (a : Addr) (w5 : a5.size ≤ 65536) (hE : w.cell? ⟨0, 0, none⟩ = some (.iface 50 (.pointer (some a)))) (hE1 : 0 < w.heap.size) :
    Calls Tryd.prog 3 #[.int .i64 0, .int .i64 a1, .int .i64 a2, .int .i64 a3, .int .i64 a4, .string a5] w fun e w' => e = .returned (.bool true) ∧ Below w.heap.size w w' := by
  obtain ⟨i, hi, hcmp⟩ : ∃ i, Tryd.prog.info? 50 = some i ∧ i.comparable = true := info_parts1 infoE
  obtain ⟨i2, hi2⟩ : ∃ i, Tryd.prog.info? 76 = some i := Option.isSome_iff_exists.1 infoT
  have heq := fun w => run_eql_iface_ptr_same (P := Tryd.prog) w a Tryd.underlying35 Tryd.underlying50 hi hcmp hi2
  clear hi hcmp hi2
  go_enter Tryd.func3, Tryd.ntmps3
  go_wp2
  go_quiet (fail)
  go_wp2
  go_ret
  refine ⟨by simp, ?_⟩
  first | exact below_drewN (by go_grown) _ | go_grown
set_option maxRecDepth 100000 in
set_option linter.unusedVariables false in
set_option maxHeartbeats 2000000 in
theorem n1 (a1 : Int) (a2 a3 a4 : Int) (a5 : ByteArray) (w : World) (a : Addr) (w5 : a5.size ≤ 65536) (hE : w.cell? ⟨0, 0, none⟩ = some (.iface 50 (.pointer (some a)))) (hE1 : 0 < w.heap.size) :
    Calls Tryd.prog 3 #[.int .i64 1, .int .i64 a1, .int .i64 a2, .int .i64 a3, .int .i64 a4, .string a5] w fun e w' => e = .returned (.bool true) ∧ Below w.heap.size w w' := by
  obtain ⟨i, hi, hcmp⟩ : ∃ i, Tryd.prog.info? 50 = some i ∧ i.comparable = true := info_parts1 infoE
  obtain ⟨i2, hi2⟩ : ∃ i, Tryd.prog.info? 76 = some i := Option.isSome_iff_exists.1 infoT
  have heq := fun w => run_eql_iface_ptr_same (P := Tryd.prog) w a Tryd.underlying35 Tryd.underlying50 hi hcmp hi2
  clear hi hcmp hi2
  go_enter Tryd.func3, Tryd.ntmps3
  go_wp2
  go_quiet (fail)
  go_wp2
  go_ret
  refine ⟨by simp, ?_⟩
  first | exact below_drewN (by go_grown) _ | go_grown
set_option maxRecDepth 100000 in
set_option linter.unusedVariables false in
set_option maxHeartbeats 2000000 in
theorem n4 (a1 : Int) (a2 a3 a4 : Int) (a5 : ByteArray) (w : World) (a : Addr) (w5 : a5.size ≤ 65536) (hE : w.cell? ⟨0, 0, none⟩ = some (.iface 50 (.pointer (some a)))) (hE1 : 0 < w.heap.size) :
    Calls Tryd.prog 3 #[.int .i64 4, .int .i64 a1, .int .i64 a2, .int .i64 a3, .int .i64 a4, .string a5] w fun e w' => e = .returned (.bool true) ∧ Below w.heap.size w w' := by
  obtain ⟨i, hi, hcmp⟩ : ∃ i, Tryd.prog.info? 50 = some i ∧ i.comparable = true := info_parts1 infoE
  obtain ⟨i2, hi2⟩ : ∃ i, Tryd.prog.info? 76 = some i := Option.isSome_iff_exists.1 infoT
  have heq := fun w => run_eql_iface_ptr_same (P := Tryd.prog) w a Tryd.underlying35 Tryd.underlying50 hi hcmp hi2
  clear hi hcmp hi2
  go_enter Tryd.func3, Tryd.ntmps3
  go_wp2
  go_quiet (fail)
  go_wp2
  go_ret
  refine ⟨by simp, ?_⟩
  first | exact below_drewN (by go_grown) _ | go_grown
set_option maxRecDepth 100000 in
set_option linter.unusedVariables false in
set_option maxHeartbeats 2000000 in
theorem n5 (a1 : Int) (a2 a3 a4 : Int) (a5 : ByteArray) (w : World) (a : Addr) (w5 : a5.size ≤ 65536) (hE : w.cell? ⟨0, 0, none⟩ = some (.iface 50 (.pointer (some a)))) (hE1 : 0 < w.heap.size) :
    Calls Tryd.prog 3 #[.int .i64 5, .int .i64 a1, .int .i64 a2, .int .i64 a3, .int .i64 a4, .string a5] w fun e w' => e = .returned (.bool true) ∧ Below w.heap.size w w' := by
  obtain ⟨i, hi, hcmp⟩ : ∃ i, Tryd.prog.info? 50 = some i ∧ i.comparable = true := info_parts1 infoE
  obtain ⟨i2, hi2⟩ : ∃ i, Tryd.prog.info? 76 = some i := Option.isSome_iff_exists.1 infoT
  have heq := fun w => run_eql_iface_ptr_same (P := Tryd.prog) w a Tryd.underlying35 Tryd.underlying50 hi hcmp hi2
  clear hi hcmp hi2
  go_enter Tryd.func3, Tryd.ntmps3
  go_wp2
  go_quiet (fail)
  go_wp2
  go_ret
  refine ⟨by simp, ?_⟩
  first | exact below_drewN (by go_grown) _ | go_grown
set_option maxRecDepth 100000 in
set_option linter.unusedVariables false in
set_option maxHeartbeats 4000000 in
theorem walk (a0 : Int) (a1 : Int) (a2 : Int) (a3 : Int) (a4 : Int) (a5 : ByteArray) (w : World) (w0 : (Lit.int .i64 a0).wf = true) (w1 : (Lit.int .i64 a1).wf = true) (w2 : (Lit.int .i64 a2).wf = true) (w3 : (Lit.int .i64 a3).wf = true) (w4 : (Lit.int .i64 a4).wf = true) (w5 : a5.size ≤ maxLen) (hL : laidMetH Tryd.prog Rows.fnRangeRefusalsRow.laid w) :
    Calls Tryd.prog 3 #[.int .i64 a0, .int .i64 a1, .int .i64 a2, .int .i64 a3, .int .i64 a4, .string a5] w fun e w' => e = .returned (.bool true) ∧ Below w.heap.size w w' := by
  have hb := bounds_i64 w0
  have hb1 := bounds_i64 w1
  unfold maxLen at w5
  obtain ⟨a, hE⟩ := errCell hL
  have hE1 : 0 < w.heap.size := World.block_lt_of_cell? w _ hE
  by_cases hs : a5.size ≤ 65536
  · by_cases hk : 0 ≤ a0 ∧ a0 ≤ 5
    · obtain ⟨h0, h5⟩ := hk
      by_cases e0 : a0 = 0
      · subst e0; exact n0 a1 a2 a3 a4 a5 w a hs hE hE1
      by_cases e1 : a0 = 1
      · subst e1; exact n1 a1 a2 a3 a4 a5 w a hs hE hE1
      by_cases e4 : a0 = 4
      · subst e4; exact n4 a1 a2 a3 a4 a5 w a hs hE hE1
      by_cases e5 : a0 = 5
      · subst e5; exact n5 a1 a2 a3 a4 a5 w a hs hE hE1
      by_cases e2 : a0 = 2
      · subst e2
        by_cases f0 : a1 = 0
        · subst f0; exact c20 a2 a3 a4 a5 w a hs hE hE1
        by_cases f1 : a1 = 1
        · subst f1; exact c21 a2 a3 a4 a5 w a hs hE hE1
        clear hE hL
        by_cases hn : a1 < 0
        · go_enter Tryd.func3, Tryd.ntmps3
          go_wp2
          all_goals go_ret
          all_goals (refine ⟨rfl, ?_⟩; go_grown)
        · have hn2 : 2 ≤ a1 := by omega
          go_enter Tryd.func3, Tryd.ntmps3
          go_wp2
          all_goals go_ret
          all_goals (refine ⟨rfl, ?_⟩; go_grown)
      by_cases e3 : a0 = 3
      · subst e3
        by_cases f0 : a1 = 0
        · subst f0; exact c30 a2 a3 a4 a5 w a hs hE hE1
        by_cases f1 : a1 = 1
        · subst f1; exact c31 a2 a3 a4 a5 w a hs hE hE1
        by_cases f2 : a1 = 2
        · subst f2; exact c32 a2 a3 a4 a5 w a hs hE hE1
        clear hE hL
        by_cases hn : a1 < 0
        · go_enter Tryd.func3, Tryd.ntmps3
          go_wp2
          all_goals go_ret
          all_goals (refine ⟨rfl, ?_⟩; go_grown)
        · have hn2 : 3 ≤ a1 := by omega
          go_enter Tryd.func3, Tryd.ntmps3
          go_wp2
          all_goals go_ret
          all_goals (refine ⟨rfl, ?_⟩; go_grown)
      omega
    · clear hL hE
      by_cases hn : a0 < 0
      · go_enter Tryd.func3, Tryd.ntmps3
        go_wp2
        all_goals go_ret
        all_goals exact ⟨rfl, Below.refl _ _⟩
      · have hn2 : 5 < a0 := by omega
        go_enter Tryd.func3, Tryd.ntmps3
        go_wp2
        all_goals go_ret
        all_goals exact ⟨rfl, Below.refl _ _⟩
  · clear hL hE
    go_enter Tryd.func3, Tryd.ntmps3
    go_wp2
    all_goals go_ret
    all_goals exact ⟨rfl, Below.refl _ _⟩
end Go.Proofs.YtdcafjjglgceaadDoor.fnRangeRefusals
