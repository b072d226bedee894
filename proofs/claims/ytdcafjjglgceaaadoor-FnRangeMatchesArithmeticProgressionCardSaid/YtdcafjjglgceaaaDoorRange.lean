/- builtinRange with two and three Ints. Conditions: the array's builder by its contract; a positive step, or a refused one. -/
import Derived.Test.YtdcafjjglgceaaaDoorBuild
import Derived.Deep.RegionWith
namespace Go.Proofs.YtdcafjjglgceaaaDoor
open Go.RowKit

theorem taI (v : Value) (w : World) : (Instr.typeAssert (.iface 28 v) 23 28 true).run Tryd.prog w = .ok (.tuple #[v, .bool true]) w := by kernel_rfl
attribute [local go_sem] taI

/-- The same as an object, and no error. -/
def RangeRes (n : Nat) (zs : List Int) (w : World) (e : Ending) (w' : World) : Prop :=
  ∃ ab A c vs, e = .returned (.tuple #[.iface 35 (.pointer (some ⟨ab, 0, none⟩)), .nilIface]) ∧ Blk w' ab #[.slice A n c] 39 ∧ SlIn w' w'.heap.size A n c vs ∧ Objs w' w.heap.size vs zs ∧ Below w.heap.size w w'

set_option maxRecDepth 100000 in
set_option maxHeartbeats 4000000 in
theorem range3 (s p t : Int) (n : Nat) (zs : List Int) (ib jb kb ca : Nat) (Aa : Option Addr) (w : World) (hB : ∀ W, Calls Tryd.prog 9 #[.int .i64 s, .int .i64 p, .int .i64 t] W (RangeArr n zs W)) (ht : 0 < t)
    (hargs : SlIn w w.heap.size Aa 3 ca [.iface 28 (.pointer (some ⟨ib, 0, none⟩)), .iface 28 (.pointer (some ⟨jb, 0, none⟩)), .iface 28 (.pointer (some ⟨kb, 0, none⟩))]) (h1 : Blk w ib #[.int .i64 s] 32) (h2 : Blk w jb #[.int .i64 p] 32) (h3 : Blk w kb #[.int .i64 t] 32) :
    Calls Tryd.prog 8 #[.slice Aa 3 ca] w (RangeRes n zs w) := by
  obtain ⟨ba, oa, u, hAa, hba, hu, hcu⟩ := hargs.cell (k := 0) (by omega)
  subst hAa
  simp at hu
  subst hu
  rw [Nat.add_zero] at hcu
  obtain ⟨ba', oa', u', hAa', _, hu', hcu'⟩ := hargs.cell (k := 1) (by omega)
  simp only [Option.some.injEq, Addr.mk.injEq, and_true] at hAa'
  obtain ⟨rfl, rfl⟩ := hAa'
  simp at hu'
  subst hu'
  obtain ⟨ba', oa', u', hAa', _, hu', hcu2⟩ := hargs.cell (k := 2) (by omega)
  simp only [Option.some.injEq, Addr.mk.injEq, and_true] at hAa'
  obtain ⟨rfl, rfl⟩ := hAa'
  simp at hu'
  subst hu'
  have hi1 := h1.at (i := 0) (v := .int .i64 s) rfl
  have hi2 := h2.at (i := 0) (v := .int .i64 p) rfl
  have hi3 := h3.at (i := 0) (v := .int .i64 t) rfl
  have HB := hide hB
  clear h1 h2 h3 hargs hB
  go_enter Tryd.func8, Tryd.ntmps8
  go_wp2
  refine wp_loop_rounds 4 ?_
  rw [rounds_succ]
  go_wp2
  rw [rounds_succ]
  go_wp2
  rw [rounds_succ]
  go_wp2
  rw [rounds_succ]
  go_wp2
  go_region_with (go_at_call 9; refine (HB.out _).mono ?_; rintro e w2 ⟨ab, A, c, vs, rfl, hb, hs, ho, hl⟩; have KB := hide hb; have KS := hide hs; have KO := hide ho; have KL := hide hl; clear hb hs ho hl)
  all_goals
    go_wp2
    go_ret2
    exact ⟨ab, A, c, vs, rfl, KB.out, KS.out, KO.out, (below_drewN (Below.refl w.heap.size w) 1).trans KL.out⟩

set_option maxRecDepth 100000 in
set_option maxHeartbeats 4000000 in
theorem range2 (s p : Int) (n : Nat) (zs : List Int) (ib jb ca : Nat) (Aa : Option Addr) (w : World) (hB : ∀ W, Calls Tryd.prog 9 #[.int .i64 s, .int .i64 p, .int .i64 1] W (RangeArr n zs W))
    (hargs : SlIn w w.heap.size Aa 2 ca [.iface 28 (.pointer (some ⟨ib, 0, none⟩)), .iface 28 (.pointer (some ⟨jb, 0, none⟩))]) (h1 : Blk w ib #[.int .i64 s] 32) (h2 : Blk w jb #[.int .i64 p] 32) :
    Calls Tryd.prog 8 #[.slice Aa 2 ca] w (RangeRes n zs w) := by
  obtain ⟨ba, oa, u, hAa, hba, hu, hcu⟩ := hargs.cell (k := 0) (by omega)
  subst hAa
  simp at hu
  subst hu
  rw [Nat.add_zero] at hcu
  obtain ⟨ba', oa', u', hAa', _, hu', hcu'⟩ := hargs.cell (k := 1) (by omega)
  simp only [Option.some.injEq, Addr.mk.injEq, and_true] at hAa'
  obtain ⟨rfl, rfl⟩ := hAa'
  simp at hu'
  subst hu'
  have hi1 := h1.at (i := 0) (v := .int .i64 s) rfl
  have hi2 := h2.at (i := 0) (v := .int .i64 p) rfl
  have l1 := h1.lt
  have l2 := h2.lt
  have HB := hide hB
  clear h1 h2 hargs hB
  go_enter Tryd.func8, Tryd.ntmps8
  go_wp2
  refine wp_loop_rounds 3 ?_
  rw [rounds_succ]
  go_wp2
  rw [rounds_succ]
  go_wp2
  rw [rounds_succ]
  go_wp2
  go_region_with (go_at_call 9; refine (HB.out _).mono ?_; rintro e w2 ⟨ab, A, c, vs, rfl, hb, hs, ho, hl⟩; have KB := hide hb; have KS := hide hs; have KO := hide ho; have KL := hide hl; clear hb hs ho hl)
  all_goals
    go_wp2
    go_ret2
    exact ⟨ab, A, c, vs, rfl, KB.out, KS.out, KO.out.mono (by simp), ((below_drewN ((Below.refl w.heap.size w).alloc (Nat.le_refl _) _) 1)).trans (KL.out.mono (by simp))⟩
end Go.Proofs.YtdcafjjglgceaaaDoor
