/- The law FnCompiledFunctionTypeNameKeptByCopy walked: the call returns true and writes nothing that was there. Its conditions: none beyond the arguments' types. -/
import Derived.Test.YtnfkpijeionihaaProg
import Derived.Test.YtnfkpijeionihaaBase
import Derived.Handy
import Derived.Outline
import Derived.WalkLawsBesides
import Derived.WalkSpells
import Derived.Deep.QuietTactic
import Derived.BigQuiet
import Derived.RegionTactic
import Derived.ChangeAlike
import Derived.Test.YtnfkpijeionihaaClone
import Derived.Test.YtnfkpijeionihaaCopy
namespace Go.Proofs.Ytnfkpijeionihaa.fnCompiledFunctionTypeNameKeptByCopy
open Go.RowKit Go.Proofs.Ytnfkpijeionihaa
set_option linter.unusedVariables false in
set_option maxHeartbeats 1000000 in
theorem walk (a0 : Option Addr) (len0 cap0 : Nat) (z0 : List UInt8) (a1 : Int) (a2 : Int) (a3 : Bool) (w : World) (w0 : SlIn w w.heap.size a0 len0 cap0 (z0.map bt)) (w1 : (Lit.int .i64 a1).wf = true) (w2 : (Lit.int .i64 a2).wf = true) :
    Calls Try.prog 3 #[.slice a0 len0 cap0, .int .i64 a1, .int .i64 a2, .bool a3] w fun e w' => e = .returned (.bool true) ∧ Below w.heap.size w w' := by
  have t0 := w0.top
  have l0 := w0.le
  unfold maxLen at t0
  have S0 := hide w0
  clear w0
  by_cases h : len0 ≤ 1048576
  · go_enter Try.func3, Try.ntmps3
    go_wp2_with (go_at_call 4; go_in)
    refine (clone_any a0 len0 cap0 z0 w S0.out (by omega)).mono ?_
    rintro e wa ⟨A1, c1, rfl, ho1, hb1⟩
    have O1 := hide (SlIn.of_own ho1)
    have B1 := hide hb1
    clear ho1 hb1
    go_wp2_with fail
    refine (copy_any wa.heap.size A1 len0 c1 z0 a1 a2 a3 _ (heap_alloc_new wa _) ((O1.out.alloc (Nat.le_refl _) _).mono (by simp)) (by omega)).mono ?_
    rintro e wb ⟨⟨b, rfl⟩, hb2⟩
    have B2 := hide hb2
    clear hb2
    go_wp2
    go_ret
    refine ⟨rfl, ?_⟩
    exact B1.out.trans (((Below.refl _ _).alloc B1.out.size _).trans (B2.out.mono (by have := B1.out.size; simp; omega)))
  · go_enter Try.func3, Try.ntmps3
    go_wp2
    all_goals go_ret
    all_goals exact ⟨rfl, Below.refl _ _⟩
end Go.Proofs.Ytnfkpijeionihaa.fnCompiledFunctionTypeNameKeptByCopy
