/- Two texts of one map are one text but for the order of the entries: lengths and counts agree; of at most one entry they are equal. No program in sight. -/
import Derived.Test.YtdmmiiniikdapaaFmtSpr
import Derived.Test.YtdmmiiniikdapaaFmtHist
import Derived.Test.YtdmmiiniikdapaaFmtDis
namespace Go.Proofs.YtdmmiiniikdapaaFmt
open Go.RowKit

theorem sep_join (sep : List UInt8) : ∀ L : List (List UInt8), L ≠ [] → sep ++ Lib.join L sep = (L.map (sep ++ ·)).flatten
  | [], h => absurd rfl h
  | x :: r, _ => by
    rw [Lib.join_cons]
    unfold Lib.joinTail
    simp [List.append_assoc]
theorem join_perm {L L' : List (List UInt8)} (sep : List UInt8) (h : L.Perm L') : (Lib.join L sep).Perm (Lib.join L' sep) := by
  by_cases h0 : L = []
  · subst h0
    have : L' = [] := h.symm.eq_nil
    subst this
    exact List.Perm.refl _
  · have h1 : L' ≠ [] := fun e => by subst e; exact h0 h.eq_nil
    have h2 : (sep ++ Lib.join L sep).Perm (sep ++ Lib.join L' sep) := by
      rw [sep_join sep L h0, sep_join sep L' h1]
      exact (h.map _).flatten
    exact (List.perm_append_left_iff sep).1 h2
theorem strT_perm {T : Nat → Int} {V : Vals} {ps qs : List (List UInt8)} (h : ps.Perm qs) : (strT T V ps).Perm (strT T V qs) := by
  unfold strT
  exact ((join_perm _ (h.map _)).append_left _).append_right _
theorem histC_perm {l l' : List UInt8} (h : l.Perm l') : histC l = histC l' := by
  unfold histC
  congr 1
  funext i
  rw [h.count_eq]
theorem one_order {V : Vals} {zs : List ByteArray} {xs : List Int} {k : Nat} {ps qs : List (List UInt8)} (hV : From V zs xs k) (hS : Same zs k) (hn : ps.Nodup) (hp : ps.Perm qs) (hk : ∀ l, l ∈ ps ↔ (V l).isSome = true) : ps = qs := by
  have hall : ∀ a b, a ∈ ps → b ∈ ps → a = b := by
    intro a b ha hb
    obtain ⟨x, hx⟩ := Option.isSome_iff_exists.1 ((hk a).1 ha)
    obtain ⟨y, hy⟩ := Option.isSome_iff_exists.1 ((hk b).1 hb)
    obtain ⟨_, i, s, hi, hs, rfl⟩ := hV a x hx
    obtain ⟨_, j, t, hj, ht, rfl⟩ := hV b y hy
    rw [hS i j s t hi hj hs ht]
  match ps, hn, hp, hall with
  | [], _, hp, _ => exact (hp.symm.eq_nil).symm
  | [a], _, hp, _ => exact (List.perm_singleton.1 hp.symm).symm
  | a :: b :: r, hn, _, hall =>
    have e := hall a b (by simp) (by simp)
    subst e
    simp at hn
theorem fits_of {V : Vals} {zs : List ByteArray} {xs : List Int} {k : Nat} (h : From V zs xs k) (hz : ∀ s ∈ zs, s.size ≤ 1048576) (hx : ∀ n ∈ xs, (Lit.int .i64 n).wf = true) : Fits V :=
  ⟨fun l x hl => hx x (h l x hl).1, fun l x hl => by
    obtain ⟨_, a, s, _, hs, rfl⟩ := h l x hl
    have := hz s (List.mem_of_getElem? hs)
    simpa using this⟩
theorem strT_length {T : Nat → Int} {V : Vals} {ps : List (List UInt8)} (hV : Fits V) (hk : ∀ l, l ∈ ps ↔ (V l).isSome = true) (hn : ps.length ≤ 4096) : (strT T V ps).length ≤ 1099511627776 := by
  have h1 := join_length_le (M := 1048700) (sep := [44, 32]) (L := ps.map (entT T V)) (fun l hl => by
    obtain ⟨k, hkm, rfl⟩ := List.mem_map.1 hl
    obtain ⟨y, hy⟩ := Option.isSome_iff_exists.1 ((hk k).1 hkm)
    exact entT_length hV hy)
  rw [List.length_map] at h1
  have h2 : ps.length * (1048700 + 2) ≤ 4096 * (1048700 + 2) := Nat.mul_le_mul_right _ (by omega)
  unfold strT
  simp only [List.length_cons, List.length_nil, List.length_append] at h1 ⊢
  omega
end Go.Proofs.YtdmmiiniikdapaaFmt
