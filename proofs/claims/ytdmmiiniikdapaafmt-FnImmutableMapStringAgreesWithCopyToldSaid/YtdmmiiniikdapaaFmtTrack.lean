/- The order in which the keys of a map have come. No program in sight. -/
import Derived.Test.YtdmmiiniikdapaaFmtMap
namespace Go.Proofs.YtdmmiiniikdapaaFmt
open Go.RowKit

/-- The keys that have come, in their order, and those that are still to come. -/
structure Track (D : DataW Unit) (left : Lit → Bool) (ps : List (List UInt8)) : Prop where
  nd : ps.Nodup
  mem : ∀ l, left (.string l) = true ↔ (Maps.has D (.string l) = true ∧ l ∉ ps)
  sub : ∀ l ∈ ps, Maps.has D (.string l) = true
theorem Track.start (D : DataW Unit) : Track D (Maps.has D) [] := ⟨List.nodup_nil, fun l => by simp, fun _ h => by cases h⟩
theorem Track.step {D : DataW Unit} {left : Lit → Bool} {ps : List (List UInt8)} {l : List UInt8} (h : Track D left ps) (hl : left (.string l) = true) : Track D (fun z => left z && !z.sameKey (.string l)) (ps ++ [l]) := by
  obtain ⟨h1, h2⟩ := (h.mem l).1 hl
  refine ⟨?_, fun l' => ?_, fun l' hl' => ?_⟩
  · rw [List.nodup_append]
    exact ⟨h.nd, by simp, fun a ha b hb => by
      obtain rfl : b = l := by simpa using hb
      intro e
      subst e
      exact h2 ha⟩
  · have hk : WideAt.IsKeyLit (.string l) := trivial
    by_cases e : l' = l
    · subst e
      simp [WideAt.sameKey_self hk]
    · have : Lit.sameKey (.string l') (.string l) = false := Maps.sameKey_ne (by intro e2; injection e2 with e2; exact e e2)
      simp [this, e, h.mem l']
  · rcases List.mem_append.1 hl' with hm | hm
    · exact h.sub l' hm
    · obtain rfl : l' = l := by simpa using hm
      exact h1
theorem Track.done {D : DataW Unit} {left : Lit → Bool} {ps : List (List UInt8)} (h : Track D left ps) (hl : ∀ kl, left kl = false) (l : List UInt8) : l ∈ ps ↔ Maps.has D (.string l) = true := by
  constructor
  · exact h.sub l
  · intro hh
    apply Classical.byContradiction
    intro hn
    have := (h.mem l).2 ⟨hh, hn⟩
    rw [hl] at this
    cases this

/-- V at the keys of a list alone. -/
def restr (V : Vals) (ps : List (List UInt8)) : Vals := fun l => if l ∈ ps then V l else none
theorem restr_nil (V : Vals) : restr V [] = fun _ => none := by funext l; simp [restr]
theorem restr_put {V : Vals} {ps : List (List UInt8)} {l : List UInt8} {x : Int} (h : V l = some x) : putV (restr V ps) l x = restr V (ps ++ [l]) := by
  funext l'
  unfold putV restr
  by_cases e : l' = l
  · subst e; simp [h]
  · simp [e]
theorem restr_all {V : Vals} {ps : List (List UInt8)} (h : ∀ l, l ∈ ps ↔ (V l).isSome = true) : restr V ps = V := by
  funext l
  unfold restr
  split
  · rfl
  · rename_i hn
    rw [h l] at hn
    cases hv : V l with
    | none => rfl
    | some x => rw [hv] at hn; simp at hn

theorem count_one {α : Type} [BEq α] [LawfulBEq α] {a : α} : ∀ {l : List α}, l.Nodup → a ∈ l → l.count a = 1
  | [], _, h => by cases h
  | b :: l, hn, h => by
    obtain ⟨h1, h2⟩ := List.nodup_cons.1 hn
    by_cases e : b = a
    · subst e
      rw [List.count_cons_self, List.count_eq_zero_of_not_mem h1]
    · rw [List.count_cons_of_ne e]
      rcases List.mem_cons.1 h with h | h
      · exact absurd h.symm e
      · exact count_one h2 h

/-- Two orders of the same keys. -/
theorem perm_of_keys {V : Vals} {ps qs : List (List UInt8)} (h1 : ps.Nodup) (h2 : qs.Nodup) (k1 : ∀ l, l ∈ ps ↔ (V l).isSome = true) (k2 : ∀ l, l ∈ qs ↔ (V l).isSome = true) : ps.Perm qs := by
  rw [List.perm_iff_count]
  intro a
  by_cases ha : a ∈ ps
  · rw [count_one h1 ha, count_one h2 ((k2 a).2 ((k1 a).1 ha))]
  · rw [List.count_eq_zero_of_not_mem ha, List.count_eq_zero_of_not_mem (fun h => ha ((k1 a).2 ((k2 a).1 h)))]
end Go.Proofs.YtdmmiiniikdapaaFmt
