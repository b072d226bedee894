/- The step from the walk of the law FnImmutableMapStringAgreesWithCopy to its given statement, fmt's two texts told by the library's own function, the table of strconv holding whatever twenty numbers the heap holds (that it holds twenty numbers is the shape of every heap that the statement speaks of). Its conditions: none beyond the statement itself. -/
import Derived.Test.YtdmmiiniikdapaaFmtWFnImmutableMapStringAgreesWithCopy
import Derived.Test.YtdmmiiniikdapaaFmtRows
import Derived.Test.YtdmmiiniikdapaaFmtCards
import Derived.ProofKit
import Derived.OpenShut
import Derived.ShutString
import Derived.ChangeOld
import Derived.Below
import Derived.OpenVars
import Derived.Stop.JoinedAt
import Derived.Stop.JoinedTold
import Derived.SevenToldRow
namespace Go.Proofs.YtdmmiiniikdapaaFmt.fnImmutableMapStringAgreesWithCopy
open Go.ChangeShapes Go.WideShapes Go.ChangeAt Go.RowKit Go.Proofs.YtdmmiiniikdapaaFmt
open Go.ChangeMaps (open_string shut_string)
open Go.Extern.Stop Go.Stop Go.Extern
set_option linter.unusedVariables false

theorem own : ownKnob Tryf.prog.godebug = none := by kernel_rfl
theorem laidOut : laidOutB Tryf.prog = true := by kernel_rfl

set_option maxRecDepth 100000 in
/-- The walk, at arguments as the statement gives them. -/
theorem met {H : Type} {enc : TypeId × Value → H} (F : Interp) (T : Nat → Int) (W : World) (base : Nat) (args : Array Value) (ds gs : List (DataW H)) (before : List MemPlace) (hT : Tab W T) (hF : F.told.answers W.tape)
    (hval0 : ∀ (j : Nat) t v, Tryf.f4.params[j]? = some t → args[j]? = some v → Value.okWide Tryf.prog W .any base t v)
    (hW : DataW.Whole enc Tryf.prog Tryf.f4.params.toList (OpenSpec.ofChange Rows.fnImmutableMapStringAgreesWithCopySpec).vars false W args.toList ds gs before) :
    Calls Tryf.prog 4 args W fun e W' => ∃ v, e = .returned v ∧ ((OpenSpec.ofChange Rows.fnImmutableMapStringAgreesWithCopySpec).at F.told).post enc Tryf.prog Tryf.f4 false true false false W args v W' := by
  have hval : ∀ (j : Nat) t v, Tryf.f4.params[j]? = some t → args[j]? = some v → Value.okWide Tryf.prog W .any base t v := hval0
  have hW' := hW
  obtain ⟨p, q, hA0, hV, rfl, hfz, hnd⟩ := hW
  have hA : DataW.TrodAll enc Tryf.prog W 0 (fun _ => true) true Tryf.f4.params.toList args.toList ds p := hA0
  rw [Tryf.params4] at hA hval
  obtain ⟨v0, vs0, d0, ds0, p0, q0, hargs, rfl, rfl, h0, r0⟩ := trodAll_cons hA
  obtain ⟨v1, vs1, d1, ds1, p1, q1, rfl, rfl, rfl, h1, r1⟩ := trodAll_cons r0
  obtain ⟨rfl, rfl, rfl⟩ := trodAll_nil r1
  obtain rfl : args = #[v0, v1] := by cases args; simp_all
  obtain ⟨rfl, rfl⟩ := trodVars_none hV
  obtain ⟨a0, len0, cap0, rfl⟩ := okWide_slice Tryf.underlying22 (hval 0 22 v0 rfl rfl)
  have k0 := h0
  have lt0 : ∀ x ∈ p0, x.block < W.heap.size := by obtain ⟨m, hm⟩ := k0; exact DataW.trod_lt m _ _ _ hm
  obtain ⟨z0, w0, wf0⟩ : ∃ zs : List ByteArray, SlIn W W.heap.size a0 len0 cap0 (zs.map Value.string) ∧ ∀ s ∈ zs, s.size ≤ maxLen := by
    obtain ⟨fuel, hf⟩ := h0
    rcases open_strings Tryf.underlying22 Tryf.underlying9 (by kernel_rfl) hf with ⟨hcs, _⟩ | ⟨x, l, c, zs, hcs, _, hl, hm, hz, _, hcell, hwz⟩
    · simp [Value.cells] at hcs
      obtain ⟨rfl, rfl, rfl⟩ := hcs
      exact ⟨[], SlIn.nilSlice _ _, fun _ h => by cases h⟩
    · simp [Value.cells] at hcs
      obtain ⟨rfl, rfl, rfl⟩ := hcs
      exact ⟨_, strs_in hl hm (by simpa using hz) hcell, fun s hs => hwz s (List.mem_of_mem_take hs)⟩
  obtain ⟨a1, len1, cap1, rfl⟩ := okWide_slice Tryf.underlying23 (hval 1 23 v1 rfl rfl)
  have k1 := h1
  have lt1 : ∀ x ∈ p1, x.block < W.heap.size := by obtain ⟨m, hm⟩ := k1; exact DataW.trod_lt m _ _ _ hm
  obtain ⟨z1, w1, wf1⟩ : ∃ zs : List Int, SlIn W W.heap.size a1 len1 cap1 (zs.map (Value.int .i64)) ∧ ∀ n ∈ zs, (Lit.int .i64 n).wf = true := by
    obtain ⟨fuel, hf⟩ := h1
    rcases open_ints Tryf.underlying23 Tryf.underlying2 (by kernel_rfl) hf with ⟨hcs, _⟩ | ⟨x, l, c, zs, hcs, _, hl, hm, hz, _, hcell, hwz⟩
    · simp [Value.cells] at hcs
      obtain ⟨rfl, rfl, rfl⟩ := hcs
      exact ⟨[], SlIn.nilSlice _ _, fun _ h => by cases h⟩
    · simp [Value.cells] at hcs
      obtain ⟨rfl, rfl, rfl⟩ := hcs
      exact ⟨_, isRow_in hl hm (by simpa using hz) hcell, fun n hn => hwz n (List.mem_of_mem_take hn)⟩
  clear hA0 hval0
  refine (walk F T a0 len0 cap0 z0 a1 len1 cap1 z1 W hF hT w0 wf0 w1 wf1).mono fun e W' ⟨he, bel⟩ => ?_
  subst he
  exact ⟨_, rfl, _, _, _, [], _, [], hW', trodAll_mk1 (shut_bool Tryf.underlying4 _), (trodAll_cons_mk (Below.trod laidOut (by kernel_rfl) (of_decide_eq_true (by kernel_rfl)) k0 bel lt0) (trodAll_cons_mk (Below.trod laidOut (by kernel_rfl) (of_decide_eq_true (by kernel_rfl)) k1 bel lt1) trodAll_mk0)), rfl, bel.frame _, fun h => by cases h⟩

set_option maxRecDepth 100000 in
theorem lifted (os : Os) (started : os.Started) (H : Type) (enc : TypeId × Value → H) :
    ReturnsInTold none {} Tryf.checked os 4 .any Input.okWide ((OpenSpec.ofChange Rows.fnImmutableMapStringAgreesWithCopySpec).preRow enc Tryf.prog Tryf.f4 [] false []) (fun F => ((OpenSpec.ofChange Rows.fnImmutableMapStringAgreesWithCopySpec).at F).post enc Tryf.prog Tryf.f4 false true false false) (aloneAtReturn Tryf.prog) nothingAlways := by
  intro F
  have wit := OpenSpec.witness_stopped (enc := enc) (C := Tryf.checked) (s := (OpenSpec.ofChange Rows.fnImmutableMapStringAgreesWithCopySpec)) (os := os) (f := 4) (fn := Tryf.f4) (conds := []) (apart := false) false ⟨#[], #[.slice none 0 0, .slice none 0 0], []⟩ 8 (by kernel_rfl) (by kernel_rfl) (by kernel_rfl) (by kernel_rfl)
  show ReturnsInOpen {} (some F.told) Tryf.checked os 4 .any Input.okWide _ _ (aloneAtReturn Tryf.prog) nothingAlways
  refine returnsInOpen_of_calls_wide (by kernel_rfl) own started (by kernel_rfl) (wit F.told) ?_
  intro w tape i _ shaped _ ok pre _ answers
  obtain ⟨T, hT⟩ := tab_of_open shaped
  obtain ⟨_, _, _, g, hg, _, _, _, _, vals⟩ := ok
  obtain rfl : g = Tryf.f4 := Option.some.inj (hg.symm.trans Tryf.func4)
  obtain ⟨ds, gs, before, whole, _, _⟩ := OpenSpec.pre_parts pre.1.1
  refine (met F T (w.forCall tape i) w.heap.size i.args ds gs before hT answers vals (DataW.Whole.of_heap (w' := w.forCall tape i) (by rfl) whole)).mono ?_
  rintro e W' ⟨v, rfl, hp⟩
  exact ChangeSpec.post_blind hp

theorem stopsEq : Tryf.pinned.checked.prog.stops = ["fmt.Sprintf"] := by kernel_rfl
theorem knobsEq : Tryf.pinned.checked.prog.stopKnobs = [] := by kernel_rfl
theorem quietEq (os : Os) : Stop.quiet Tryf.pinned.checked.prog os := by
  intro k hk
  rw [knobsEq] at hk
  cases hk

/-- The statement. -/
theorem proved : Rows.FnImmutableMapStringAgreesWithCopyToldSaid :=
  Claim7.holds_of_told_any 4 Tryf.f4 "fmt.Sprintf" [] [] _ _ _ (by kernel_rfl) rfl rfl rfl laidOut (by kernel_rfl) rfl ⟨rfl, rfl, rfl, rfl, rfl, rfl, rfl⟩ rfl rfl (by kernel_rfl) (by kernel_rfl) Tryf.func4 (by kernel_rfl)
    (of_decide_eq_true (by kernel_rfl)) (by unfold Func.isWrapper; first | (rw [if_pos (by decide +kernel)]; kernel_rfl) | (rw [if_neg (by decide +kernel)]; exact ⟨rfl, rfl⟩)) stopsEq.symm rfl knobsEq.symm (by kernel_rfl)
    (by kernel_rfl) (by kernel_rfl) (by kernel_rfl) (by kernel_rfl) (by kernel_rfl) (by kernel_rfl) (by kernel_rfl) (by kernel_rfl) (by kernel_rfl) rfl (by kernel_rfl) rfl rfl
    rfl rfl
    rfl (by kernel_rfl) (by kernel_rfl) (by kernel_rfl) (by decide) (by kernel_rfl)
    (OpenClaim.moreEntering_of (by kernel_rfl) (by kernel_rfl) (by kernel_rfl) (by kernel_rfl) (by kernel_rfl) (by kernel_rfl) (by kernel_rfl) (by kernel_rfl) (by kernel_rfl) (by kernel_rfl))
    ⟨_, WideRow.started_initial, quietEq _⟩
    (fun os started _ H enc _ => lifted os started H enc)
#print axioms proved
end Go.Proofs.YtdmmiiniikdapaaFmt.fnImmutableMapStringAgreesWithCopy
