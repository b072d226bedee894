/- errors.Is at a sentinel and itself, and the law's own test: true. Conditions: the sentinel is a pointer to an errors.errorString. -/
import Derived.Test.YtfcghckaikkjbaaDoorProg
import Derived.Test.YtfcghckaikkjbaaDoorBase
import Derived.WalkKit
import Derived.Handy
import Derived.Outline
import Derived.LaidEql
import Derived.Stop.Asserts
import Derived.RowKitTokens
namespace Go.Proofs.YtfcghckaikkjbaaDoor
open Go.RowKit Go.Extern.Stop Go.Stop Go.Extern

theorem isTypeOf (v : Value) (w : World) : (Extern.ReflectliteType.typeOf #[.iface 63 v]).run Tryd.prog w = .ok (.iface 54 (.agg #[.pointer (some ⟨1, 63, none⟩)])) w := by kernel_rfl
theorem isComparable (w : World) : ((Extern.ReflectliteType.method fun t => do Rtype.noPackHeld "Comparable" t; pure (.bool (← typeInfo t).comparable)) #[.agg #[.pointer (some ⟨1, 63, none⟩)]]).run Tryd.prog w = .ok (.bool true) w := by kernel_rfl
theorem isMethodComparable (v : Value) (w : World) : (Go.method 120 54 v "Comparable").run Tryd.prog w = .ok (62, v) w := by kernel_rfl
theorem isComp : (Tryd.prog.info? 63).map (·.comparable) = some true := by kernel_rfl
theorem isSize : (Tryd.prog.info? 101).map (·.size) = some 1 := by kernel_rfl

/-- errors.Is(x, x), x a pointer to an errors.errorString. -/
theorem is_same (a : Addr) (w : World) :
    Calls Tryd.prog 9 #[.iface 63 (.pointer (some a)), .iface 63 (.pointer (some a))] w fun e w' => e = .returned (.bool true) ∧ w' = w := by
  obtain ⟨i, hi, hcmp⟩ := Option.map_eq_some_iff.1 isComp
  obtain ⟨j, hj, hjs⟩ := Option.map_eq_some_iff.1 isSize
  have h8 := @run_callFunc_extern Tryd.prog 10 _ Extern.ReflectliteType.typeOf Tryd.func10 (by kernel_rfl) (by kernel_rfl) (by kernel_rfl) (by kernel_rfl)
  have h32 : ∀ w : World, Sem.run Tryd.prog (callFunc 62 #[.agg #[.pointer (some ⟨1, 63, none⟩)]]) w = .ok (Next.value (.bool true)) w := fun w => by
    rw [@run_callFunc_extern Tryd.prog 62 _ (Extern.ReflectliteType.method fun t => do Rtype.noPackHeld "Comparable" t; pure (.bool (← typeInfo t).comparable)) Tryd.func62 (by kernel_rfl) (by kernel_rfl) (by kernel_rfl) (by kernel_rfl), isComparable w]
    rfl
  have tT := isTypeOf
  have mR := isMethodComparable
  have heq := run_eql_iface_ptr_same (P := Tryd.prog) w a Tryd.underlying40 Tryd.underlying63 hi hcmp hj
  go_enter Tryd.func9, Tryd.ntmps9
  go_wp2
  refine wp_loop_rounds 1 ?_
  rw [rounds_succ]
  go_wp2
  go_ret
  exact ⟨rfl, rfl⟩
end Go.Proofs.YtfcghckaikkjbaaDoor
