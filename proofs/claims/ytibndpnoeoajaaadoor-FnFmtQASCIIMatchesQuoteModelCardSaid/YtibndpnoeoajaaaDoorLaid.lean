/- What the row's list of package-level variables gives: the cell of a listed integer variable holds the listed number. -/
import GoSem.ClaimJoined
import Derived.MakeChecks
import Derived.DataReads
import Derived.ChangeShapes
namespace Go.Proofs.YtibndpnoeoajaaaDoor

theorem laidVars_mem {P : Program} {w : World} {n : String} {d : DataW Unit} : ∀ (laid : List (String × DataW Unit)) (ps : List MemPlace), DataW.LaidVars P w laid ps → (n, d) ∈ laid →
    ∃ g t cs fuel p, P.globalNamed n = some g ∧ (P.globals[g]?).map (·.type) = some t ∧ w.var? P n = some cs ∧ DataW.trod (fun _ => ()) P w 0 (fun _ => true) false fuel t cs.toList = some (d, p)
  | [], _, _, h => by cases h
  | (n', d') :: r, ps, h, hm => by
    obtain ⟨g, t, cs, fuel, p, q, h1, h2, h3, h4, h5, _⟩ := h
    rcases List.mem_cons.1 hm with e | hm
    · obtain ⟨rfl, rfl⟩ := Prod.mk.inj e
      exact ⟨g, t, cs, fuel, p, h1, h2, h3, h4⟩
    · exact laidVars_mem r q h5 hm

theorem var_cell {P : Program} {w : World} {n : String} {g : Nat} {cs : Array Value} (hg : P.globalNamed n = some g) (h : w.var? P n = some cs) (j : Nat) : w.cell? ⟨g, j, none⟩ = cs[j]? := by
  unfold World.var? at h
  rw [hg] at h
  simp only [Option.bind_some] at h
  cases hb : w.heap[g]? with
  | none => rw [hb] at h; cases h
  | some o =>
    rw [hb] at h
    cases o with
    | cells c t fr =>
      obtain rfl : c = cs := Option.some.inj h
      simp [World.cell?, hb]
    | _ => cases h

theorem laid_int {P : Program} {w : World} {laid : List (String × DataW Unit)} {n : String} {k : IntKind} {v : Int} {g t : Nat} (h : laidMet P laid w) (hin : (n, .lit (.int k v)) ∈ laid)
    (hg : P.globalNamed n = some g) (ht : (P.globals[g]?).map (·.type) = some t) (hu : P.underlying t = some (.int k)) : w.cell? ⟨g, 0, none⟩ = some (.int k v) := by
  obtain ⟨ps, hl, _⟩ := h
  obtain ⟨g', t', cs, fuel, p, h1, h2, h3, h4⟩ := laidVars_mem laid ps hl hin
  obtain rfl : g = g' := Option.some.inj (hg.symm.trans h1)
  obtain rfl : t = t' := Option.some.inj (ht.symm.trans h2)
  obtain ⟨m, e, hx, _⟩ := DataW.trod_int hu h4
  rw [var_cell hg h3]
  rw [Prod.mk.injEq] at hx
  simp only [DataW.lit.injEq, Lit.int.injEq, true_and] at hx
  obtain ⟨rfl, _⟩ := hx
  have : cs = #[.int k v] := by cases cs; simp_all
  rw [this]; rfl

end Go.Proofs.YtibndpnoeoajaaaDoor
