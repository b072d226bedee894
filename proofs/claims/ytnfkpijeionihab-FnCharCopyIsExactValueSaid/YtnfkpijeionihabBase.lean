/- Plain words for memory: a slice that reads as a list of one-cell elements, wherever it lies, and what keeps it so. No program in sight. -/
import Derived.Below
import Derived.Laws.OwnMore
import Derived.Deep.Draws
import Derived.Deep.AppendLies
import Derived.ChangeSlices
import Derived.SliceStrings
import Derived.DataReads
import Derived.Lib.AppendStr
import Derived.OpenShut
namespace Go.Proofs.Ytnfkpijeionihab
open Go.RowKit

/-- A byte as a cell. -/
abbrev bt (c : UInt8) : Value := .int .u8 (c.toNat : Int)

/-- The slice value '.slice A n c' is a slice that holds the cells xs, one an element. -/
structure SlIn (w : World) (A : Option Addr) (n c : Nat) (xs : List Value) : Prop where
  isNil : A = none → n = 0 ∧ c = 0
  le : n ≤ c
  top : c ≤ maxLen
  len : xs.length = n
  cells : ∀ j u, xs[j]? = some u → ∃ b off, A = some ⟨b, off, none⟩ ∧ w.cell? ⟨b, off + j, none⟩ = some u

section
variable {w w' : World} {A : Option Addr} {n c : Nat} {xs : List Value}

theorem SlIn.nilSlice (w : World) : SlIn w none 0 0 [] := ⟨fun _ => ⟨rfl, rfl⟩, Nat.le_refl _, Nat.zero_le _, rfl, fun _ _ h => by simp at h⟩

theorem SlIn.cell (h : SlIn w A n c xs) {k : Nat} (hk : k < n) : ∃ b off u, A = some ⟨b, off, none⟩ ∧ b < w.heap.size ∧ xs[k]? = some u ∧ w.cell? ⟨b, off + k, none⟩ = some u := by
  have hl : k < xs.length := by rw [h.len]; exact hk
  obtain ⟨b, off, e, hc⟩ := h.cells k _ (List.getElem?_eq_getElem hl)
  exact ⟨b, off, _, e, World.block_lt_of_cell? w ⟨b, off + k, none⟩ hc, List.getElem?_eq_getElem hl, hc⟩

theorem SlIn.keep (h : SlIn w A n c xs) (hk : ∀ p : Addr, p.block < w.heap.size → w'.cell? p = w.cell? p) : SlIn w' A n c xs :=
  ⟨h.isNil, h.le, h.top, h.len, fun j u hu => by
    obtain ⟨b, off, e, hc⟩ := h.cells j u hu
    exact ⟨b, off, e, (hk _ (World.block_lt_of_cell? w ⟨b, off + j, none⟩ hc)).trans hc⟩⟩
theorem SlIn.below (h : SlIn w A n c xs) (hb : Below w.heap.size w w') : SlIn w' A n c xs := h.keep fun _ hp => hb.cell hp
theorem SlIn.alloc (h : SlIn w A n c xs) (o : Obj) : SlIn (w.alloc o) A n c xs := h.keep fun p hp => World.cell?_alloc_lt w o p hp
theorem SlIn.drew (h : SlIn w A n c xs) : SlIn w.drew A n c xs := h.keep fun _ _ => rfl
theorem SlIn.drewN (h : SlIn w A n c xs) (k : Nat) : SlIn (w.drewN k) A n c xs := h.keep fun _ _ => rfl

/-- A row of the call's own reads as a slice. -/
theorem SlIn.of_own {base : Nat} {e : TypeId} (h : w.ownsRow base e 1 (.slice A n c) n xs) : SlIn w A n c xs := by
  have hl : xs.length = n := by simpa using h.1
  rcases h.2 with ⟨h', h0⟩ | ⟨g, cap, cur, h', hb, hg, hnc, hcm, hcs, htake⟩
  · simp only [Value.slice.injEq] at h'
    obtain ⟨rfl, _, rfl⟩ := h'
    subst h0
    have : xs = [] := List.eq_nil_of_length_eq_zero hl
    subst this
    exact SlIn.nilSlice w
  · simp only [Value.slice.injEq, true_and] at h'
    obtain ⟨rfl, rfl⟩ := h'
    refine ⟨fun e => (by cases e), hnc, hcm, hl, fun j u hu => ⟨g, 0, rfl, ?_⟩⟩
    have := h.cells (g := g) rfl j u hu
    simpa [Addr.add_lit] using this

/-- What is owned is a slice value. -/
theorem own_form {base : Nat} {e : TypeId} {v : Value} (h : w.ownsRow base e 1 v n xs) : ∃ A c, v = .slice A n c := by
  rcases h.2 with ⟨rfl, rfl⟩ | ⟨g, cap, cur, rfl, _⟩
  · exact ⟨_, _, rfl⟩
  · exact ⟨_, _, rfl⟩

/-- The first part of a slice, 's[:k]'. -/
theorem SlIn.pre (h : SlIn w A n c xs) {k : Nat} (hk : k ≤ n) : SlIn w A k c (xs.take k) :=
  ⟨fun e => by have := h.isNil e; omega, Nat.le_trans hk h.le, h.top, by rw [List.length_take, h.len]; omega, fun j u hu => by
    rw [List.getElem?_take] at hu
    split at hu
    · exact h.cells j u hu
    · cases hu⟩

/-- What lies behind place k, 's[k:]': the model keeps the address where the cut stands at the capacity's end. -/
theorem SlIn.cut (h : SlIn w A n c xs) {k : Nat} (hk : k ≤ n) : SlIn w (if c = k then A else A.map (·.add k)) (n - k) (c - k) (xs.drop k) := by
  refine ⟨fun e => ?_, by have := h.le; omega, by have := h.top; omega, by rw [List.length_drop, h.len], fun j u hu => ?_⟩
  · by_cases hc : c = k
    · have := h.le; omega
    · rw [if_neg hc] at e
      have := h.isNil (by simpa using e)
      omega
  · rw [List.getElem?_drop] at hu
    obtain ⟨b, off, e, hcell⟩ := h.cells (k + j) u hu
    have hlt : k + j < xs.length := (List.getElem?_eq_some_iff.1 hu).1
    have hle := h.le
    rw [h.len] at hlt
    refine ⟨b, off + k, ?_, by rw [Nat.add_assoc]; exact hcell⟩
    rw [if_neg (by omega), e]
    simp [Addr.add_lit]
end

/-! ### What the row's opening of an argument gives -/

theorem isRow_in {w : World} {k : IntKind} {a : Addr} {len cap : Nat} {zs : List Int} (hl : len ≤ cap) (hm : cap ≤ maxLen) (hz : zs.length = cap)
    (hcell : ∀ i, i < zs.length → w.cell? (a.add i) = some (.int k (zs.getD i 0))) : SlIn w (some a) len cap ((zs.take len).map (Value.int k)) := by
  refine ⟨fun e => (by cases e), hl, hm, by simp; omega, fun j u hu => ?_⟩
  have hj : j < len := by
    have := (List.getElem?_eq_some_iff.1 hu).1
    simp at this; omega
  have hc := hcell j (by omega)
  have h0 := hcell 0 (by omega)
  obtain ⟨b, off, spot⟩ := a
  have hs : spot = none := by simpa [Addr.add] using World.cell?_spot h0
  subst hs
  refine ⟨b, off, rfl, ?_⟩
  rw [Addr.add_lit] at hc
  rw [hc, ← hu]
  simp [hj, show j < zs.length by omega]

theorem varsCons {H : Type} {enc : TypeId × Value → H} {P : Program} {w : World} {sp : Nat → Bool} {n : String} {ns : List String} {gs : List (DataW H)} (h : ∃ ps, DataW.TrodVars enc P w sp (n :: ns) gs ps) :
    ∃ y ys, gs = y :: ys ∧ ∃ ps, DataW.TrodVars enc P w sp ns ys ps := by
  obtain ⟨ps, h⟩ := h
  cases gs with
  | nil => exact h.elim
  | cons y ys =>
    obtain ⟨_, _, _, _, _, q, _, _, _, _, h, _⟩ := h
    exact ⟨y, ys, rfl, q, h⟩
theorem varsNil {H : Type} {enc : TypeId × Value → H} {P : Program} {w : World} {sp : Nat → Bool} {gs : List (DataW H)} (h : ∃ ps, DataW.TrodVars enc P w sp [] gs ps) : gs = [] := by
  obtain ⟨ps, h⟩ := h
  cases gs with
  | nil => rfl
  | cons y ys => exact h.elim

theorem u8_list {zs : List Int} (h : ∀ n ∈ zs, (Lit.int .u8 n).wf = true) : ∃ xs : List UInt8, zs.map (Value.int .u8) = xs.map bt := by
  refine ⟨zs.map fun n => UInt8.ofNat n.toNat, ?_⟩
  rw [List.map_map]
  refine List.map_congr_left fun n hn => ?_
  have hb := bounds_u8 (h n hn)
  simp only [Function.comp, bt]
  congr 1
  rw [UInt8.toNat_ofNat']
  omega

theorem strs_in {w : World} {a : Addr} {len cap : Nat} {ss : List ByteArray} (hl : len ≤ cap) (hm : cap ≤ maxLen) (hz : ss.length = cap)
    (hcell : ∀ i, i < ss.length → w.cell? (a.add i) = some (.string (ss.getD i ByteArray.empty))) : SlIn w (some a) len cap ((ss.take len).map Value.string) := by
  refine ⟨fun e => (by cases e), hl, hm, by simp; omega, fun j u hu => ?_⟩
  have hj : j < len := by
    have := (List.getElem?_eq_some_iff.1 hu).1
    simp at this; omega
  have hc := hcell j (by omega)
  have h0 := hcell 0 (by omega)
  obtain ⟨b, off, spot⟩ := a
  have hs : spot = none := by simpa [Addr.add] using World.cell?_spot h0
  subst hs
  refine ⟨b, off, rfl, ?_⟩
  rw [Addr.add_lit] at hc
  rw [hc, ← hu]
  simp [hj, show j < ss.length by omega]

end Go.Proofs.Ytnfkpijeionihab
