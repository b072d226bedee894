/- The step from the walk of the law FnCheckCyclicImportsOrderFree to its given statement, fmt's texts told by the library's own function (the walk holds for every way in which fmt answers; no text is looked at). Its conditions: none beyond the statement itself. -/
import Derived.Test.YtfngjbeadakfaaaFmtFree
import Derived.Test.YtfngjbeadakfaaaFmtRows
import Derived.Test.YtfngjbeadakfaaaFmtCards
import Derived.ProofKit
import Derived.OpenShut
import Derived.ShutString
import Derived.ChangeOld
import Derived.Below
import Derived.OpenVars
import Derived.Stop.JoinedAt
import Derived.Stop.JoinedTold
import Derived.SevenToldRow
namespace Go.Proofs.YtfngjbeadakfaaaFmt.fnCheckCyclicImportsOrderFree
open Go.ChangeShapes Go.WideShapes Go.ChangeAt Go.RowKit Go.Proofs.YtfngjbeadakfaaaFmt
open Go.ChangeMaps (open_string shut_string)
open Go.Extern.Stop Go.Stop Go.Extern
set_option linter.unusedVariables false

theorem own : ownKnob Tryf.prog.godebug = none := by kernel_rfl
theorem laidOut : laidOutB Tryf.prog = true := by kernel_rfl

set_option maxRecDepth 100000 in
theorem lifted (os : Os) (started : os.Started) (H : Type) (enc : TypeId × Value → H) :
    ReturnsInTold none {} Tryf.checked os 3 .any Input.okWide ((OpenSpec.ofChange Rows.fnCheckCyclicImportsOrderFreeSpec).preRow enc Tryf.prog Tryf.f3 [] false []) (fun F => ((OpenSpec.ofChange Rows.fnCheckCyclicImportsOrderFreeSpec).at F).post enc Tryf.prog Tryf.f3 false true false false) (aloneAtReturn Tryf.prog) nothingAlways := by
  refine returnsInTold_of_row (C := Tryf.checked) (s := (OpenSpec.ofChange Rows.fnCheckCyclicImportsOrderFreeSpec)) (by kernel_rfl) own started (by kernel_rfl) Tryf.func3
    (OpenSpec.witness_stopped (enc := enc) (C := Tryf.checked) false ⟨#[], #[.slice none 0 0, .string ⟨#[]⟩], []⟩ 8 (by kernel_rfl) (by kernel_rfl) (by kernel_rfl) (by kernel_rfl)) ?_
  intro F W base args ds gs before _ hF hval0 hW _ _ hsz _ _
  have hval : ∀ (j : Nat) t v, Tryf.f3.params[j]? = some t → args[j]? = some v → Value.okWide Tryf.prog W .any base t v := hval0
  have hW' := hW
  obtain ⟨p, q, hA0, hV, rfl, hfz, hnd⟩ := hW
  have hA : DataW.TrodAll enc Tryf.prog W 0 (fun _ => true) true Tryf.f3.params.toList args.toList ds p := hA0
  rw [Tryf.params3] at hA hval
  obtain ⟨v0, vs0, d0, ds0, p0, q0, hargs, rfl, rfl, h0, r0⟩ := trodAll_cons hA
  obtain ⟨v1, vs1, d1, ds1, p1, q1, rfl, rfl, rfl, h1, r1⟩ := trodAll_cons r0
  obtain ⟨rfl, rfl, rfl⟩ := trodAll_nil r1
  obtain rfl : args = #[v0, v1] := by cases args; simp_all
  obtain ⟨rfl, rfl⟩ := trodVars_none hV
  obtain ⟨a0, len0, cap0, rfl⟩ := okWide_slice Tryf.underlying22 (hval 0 22 v0 rfl rfl)
  have k0 := h0
  have lt0 : ∀ x ∈ p0, x.block < W.heap.size := by obtain ⟨m, hm⟩ := k0; exact DataW.trod_lt m _ _ _ hm
  obtain ⟨z0, w0, wf0⟩ : ∃ zs : List ByteArray, SlIn W W.heap.size a0 len0 cap0 (zs.map Value.string) ∧ ∀ s ∈ zs, s.size ≤ maxLen := by
    obtain ⟨fuel, hf⟩ := h0
    rcases open_strings Tryf.underlying22 Tryf.underlying9 (by kernel_rfl) hf with ⟨hcs, _⟩ | ⟨x, l, c, zs, hcs, _, hl, hm, hz, _, hcell, hwz⟩
    · simp [Value.cells] at hcs
      obtain ⟨rfl, rfl, rfl⟩ := hcs
      exact ⟨[], SlIn.nilSlice _ _, fun _ h => by cases h⟩
    · simp [Value.cells] at hcs
      obtain ⟨rfl, rfl, rfl⟩ := hcs
      exact ⟨_, strs_in hl hm (by simpa using hz) hcell, fun s hs => hwz s (List.mem_of_mem_take hs)⟩
  obtain ⟨a1, rfl, rfl, rfl, w1⟩ := open_string Tryf.underlying9 (hval 1 9 v1 rfl rfl) h1
  clear hA0 hval0
  refine (free_walk F.told a0 len0 cap0 z0 a1 W hF w0 w1).mono fun e W' ⟨he, bel⟩ => ?_
  subst he
  refine ⟨_, rfl, _, _, _, [], _, [], hW', trodAll_mk1 (shut_bool Tryf.underlying4 _), (trodAll_cons_mk (Below.trod laidOut (by kernel_rfl) (of_decide_eq_true (by kernel_rfl)) k0 bel lt0) (trodAll_cons_mk (shut_string Tryf.underlying9 w1) trodAll_mk0)), rfl, bel.frame _, fun h => by cases h⟩

theorem stopsEq : Tryf.pinned.checked.prog.stops = ["fmt.errorf, its operands' methods called", "fmt.Sprintf, its operands' methods called"] := by kernel_rfl
theorem knobsEq : Tryf.pinned.checked.prog.stopKnobs = [] := by kernel_rfl
theorem quietEq (os : Os) : Stop.quiet Tryf.pinned.checked.prog os := by
  intro k hk
  rw [knobsEq] at hk
  cases hk

/-- The statement. -/
theorem proved : Rows.FnCheckCyclicImportsOrderFreeToldSaid :=
  Claim7.holds_of_told_any 3 Tryf.f3 "fmt.errorf, its operands' methods called" ["fmt.Sprintf, its operands' methods called"] [] _ _ _ (by kernel_rfl) rfl rfl rfl laidOut (by kernel_rfl) rfl ⟨rfl, rfl, rfl, rfl, rfl, rfl, rfl⟩ rfl rfl (by kernel_rfl) (by kernel_rfl) Tryf.func3 (by kernel_rfl)
    (of_decide_eq_true (by kernel_rfl)) (by unfold Func.isWrapper; first | (rw [if_pos (by decide +kernel)]; kernel_rfl) | (rw [if_neg (by decide +kernel)]; exact ⟨rfl, rfl⟩)) stopsEq.symm rfl knobsEq.symm (by kernel_rfl)
    (by kernel_rfl) (by kernel_rfl) (by kernel_rfl) (by kernel_rfl) (by kernel_rfl) (by kernel_rfl) (by kernel_rfl) (by kernel_rfl) (by kernel_rfl) rfl (by kernel_rfl) rfl rfl
    rfl rfl
    rfl (by kernel_rfl) (by kernel_rfl) (by kernel_rfl) (by decide) (by kernel_rfl)
    (OpenClaim.moreEntering_of (by kernel_rfl) (by kernel_rfl) (by kernel_rfl) (by kernel_rfl) (by kernel_rfl) (by kernel_rfl) (by kernel_rfl) (by kernel_rfl) (by kernel_rfl) (by kernel_rfl))
    ⟨_, WideRow.started_initial, quietEq _⟩
    (fun os started _ H enc _ => lifted os started H enc)
#print axioms proved
end Go.Proofs.YtfngjbeadakfaaaFmt.fnCheckCyclicImportsOrderFree
