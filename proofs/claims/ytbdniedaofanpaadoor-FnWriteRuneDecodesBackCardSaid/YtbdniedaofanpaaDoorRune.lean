/- utf8.RuneLen and utf8.EncodeRune by contracts, and what a run of stores into a row of the call's own leaves. -/
import Derived.Test.YtbdniedaofanpaaDoorProg
import Derived.Test.YtbdniedaofanpaaDoorBase
import Derived.Handy
import Derived.WalkLawsBesides
import Derived.WalkSpells
import Derived.OneCell
namespace Go.Proofs.YtbdniedaofanpaaDoor
open Go.RowKit

/-- What writing the rune r appends, as numbers. -/
def enc (r : Int) : List Int :=
  if r < 128 then [r % 256]
  else if r < 2048 then [192 + r / 64, 128 + r % 64]
  else if (55296 ≤ r ∧ r ≤ 57343) ∨ 1114111 < r then [239, 191, 189]
  else if r < 65536 then [224 + r / 4096, 128 + r / 64 % 64, 128 + r % 64]
  else [240 + r / 262144, 128 + r / 4096 % 64, 128 + r / 64 % 64, 128 + r % 64]

theorem enc_len (r : Int) : 1 ≤ (enc r).length ∧ (enc r).length ≤ 4 := by
  unfold enc
  repeat' split
  all_goals simp

def encV (r : Int) : List Value := (enc r).map (Value.int .u8)

theorem encV_len (r : Int) : (encV r).length = (enc r).length := by simp [encV]

/-- Cells stored one behind the other. -/
def setL (w : World) (g off : Nat) : List Value → World
  | [] => w
  | v :: vs => setL (w.setCell ⟨g, off, none⟩ v) g (off + 1) vs

/-- The length in bytes that RuneLen tells. -/
def rlen (r : Int) : Int := if r < 0 then -1 else if r ≤ 127 then 1 else if r ≤ 2047 then 2 else if 55296 ≤ r ∧ r ≤ 57343 then -1 else if r ≤ 65535 then 3 else if r ≤ 1114111 then 4 else -1
theorem rlen_bd (r : Int) : -1 ≤ rlen r ∧ rlen r ≤ 4 := by
  unfold rlen
  repeat' split
  all_goals omega

set_option maxHeartbeats 1000000 in
theorem runeLen_any (r : Int) (w : World) (h0 : -2147483648 ≤ r) (h1 : r ≤ 2147483647) : Calls Tryd.prog 21 #[.int .i32 r] w fun e w' => e = .returned (.int .i64 (rlen r)) ∧ w' = w := by
  obtain ⟨v, hv⟩ : ∃ v, rlen r = v := ⟨_, rfl⟩
  rw [hv]
  unfold rlen at hv
  by_cases a0 : r < 0
  · rw [if_pos a0] at hv; subst hv
    go_enter Tryd.func21, Tryd.ntmps21
    go_wp2
    go_ret
    exact ⟨rfl, rfl⟩
  rw [if_neg a0] at hv
  by_cases a1 : r ≤ 127
  · rw [if_pos a1] at hv; subst hv
    go_enter Tryd.func21, Tryd.ntmps21
    go_wp2
    go_ret
    exact ⟨rfl, rfl⟩
  rw [if_neg a1] at hv
  by_cases a2 : r ≤ 2047
  · rw [if_pos a2] at hv; subst hv
    go_enter Tryd.func21, Tryd.ntmps21
    go_wp2
    go_ret
    exact ⟨rfl, rfl⟩
  rw [if_neg a2] at hv
  by_cases a3 : 55296 ≤ r
  · have d3 : decide (55296 ≤ r) = true := by simpa using a3
    by_cases a4 : r ≤ 57343
    · have d4 : decide (r ≤ 57343) = true := by simpa using a4
      rw [if_pos ⟨a3, a4⟩] at hv; subst hv
      go_enter Tryd.func21, Tryd.ntmps21
      go_wp2
      go_ret
      exact ⟨rfl, rfl⟩
    · have d4 : decide (r ≤ 57343) = false := by simpa using a4
      rw [if_neg (by omega)] at hv
      by_cases a5 : r ≤ 65535
      · rw [if_pos a5] at hv; subst hv
        go_enter Tryd.func21, Tryd.ntmps21
        go_wp2
        go_ret
        exact ⟨rfl, rfl⟩
      · rw [if_neg a5] at hv
        by_cases a6 : r ≤ 1114111
        · rw [if_pos a6] at hv; subst hv
          go_enter Tryd.func21, Tryd.ntmps21
          go_wp2
          go_ret
          exact ⟨rfl, rfl⟩
        · rw [if_neg a6] at hv; subst hv
          go_enter Tryd.func21, Tryd.ntmps21
          go_wp2
          go_ret
          exact ⟨rfl, rfl⟩
  · have d3 : decide (55296 ≤ r) = false := by simpa using a3
    rw [if_neg (by omega), if_pos (by omega)] at hv; subst hv
    go_enter Tryd.func21, Tryd.ntmps21
    go_wp2
    go_ret
    exact ⟨rfl, rfl⟩

set_option maxHeartbeats 2000000 in
theorem encode_any (g off cp : Nat) (u0 u1 u2 u3 : Value) (r : Int) (w : World) (h0 : 128 ≤ r) (h1 : r ≤ 2147483647)
    (c0 : w.cell? ⟨g, off, none⟩ = some u0) (c1 : w.cell? ⟨g, off + 1, none⟩ = some u1) (c2 : w.cell? ⟨g, off + 2, none⟩ = some u2) (c3 : w.cell? ⟨g, off + 3, none⟩ = some u3)
    (f0 : w.frozen? ⟨g, off, none⟩ = false) (f1 : w.frozen? ⟨g, off + 1, none⟩ = false) (f2 : w.frozen? ⟨g, off + 2, none⟩ = false) (f3 : w.frozen? ⟨g, off + 3, none⟩ = false) :
    Calls Tryd.prog 22 #[.slice (some ⟨g, off, none⟩) 4 cp, .int .i32 r] w fun e w' => e = .returned (.int .i64 ((enc r).length : Int)) ∧ setL w g off (encV r) = w' := by
  obtain ⟨l, hl⟩ : ∃ l, enc r = l := ⟨_, rfl⟩
  unfold encV
  rw [hl]
  unfold enc at hl
  rw [if_neg (by omega)] at hl
  by_cases a1 : r < 2048
  · rw [if_pos a1] at hl; subst hl
    go_enter Tryd.func22, Tryd.ntmps22
    go_wp2
    go_ret
    exact ⟨rfl, rfl⟩
  rw [if_neg a1] at hl
  by_cases a2 : r < 55296
  · have d2 : decide (r < 55296) = true := by simpa using a2
    rw [if_neg (by omega), if_pos (by omega)] at hl; subst hl
    go_enter Tryd.func22, Tryd.ntmps22
    go_wp2
    go_ret
    exact ⟨rfl, rfl⟩
  have d2 : decide (r < 55296) = false := by simpa using a2
  by_cases a3 : r ≤ 57343
  · have d3 : decide (57343 < r) = false := by simpa using a3
    have d4 : decide (65535 < r) = false := by simp; omega
    rw [if_pos (by omega)] at hl; subst hl
    go_enter Tryd.func22, Tryd.ntmps22
    go_wp2
    go_ret
    exact ⟨rfl, rfl⟩
  have d3 : decide (57343 < r) = true := by simp; omega
  by_cases a4 : r < 65536
  · have d4 : decide (r ≤ 65535) = true := by simp; omega
    rw [if_neg (by omega), if_pos a4] at hl; subst hl
    go_enter Tryd.func22, Tryd.ntmps22
    go_wp2
    go_ret
    exact ⟨rfl, rfl⟩
  have d4 : decide (r ≤ 65535) = false := by simp; omega
  have d5 : decide (65535 < r) = true := by simp; omega
  by_cases a5 : r ≤ 1114111
  · have d6 : decide (r ≤ 1114111) = true := by simpa using a5
    rw [if_neg (by omega), if_neg (by omega)] at hl; subst hl
    go_enter Tryd.func22, Tryd.ntmps22
    go_wp2
    go_ret
    exact ⟨rfl, rfl⟩
  · have d6 : decide (r ≤ 1114111) = false := by simpa using a5
    rw [if_pos (by omega)] at hl; subst hl
    go_enter Tryd.func22, Tryd.ntmps22
    go_wp2
    go_ret
    exact ⟨rfl, rfl⟩

/-! ### Rows of the call's own -/
section
variable {w : World} {base E g n cap : Nat} {xs : List Value}

theorem own_shrink (h : w.ownsRow base E 1 (.slice (some ⟨g, 0, none⟩) n cap) n xs) {k : Nat} (hk : k ≤ n) : w.ownsRow base E 1 (.slice (some ⟨g, 0, none⟩) k cap) k (xs.take k) := by
  have hl := h.1
  rcases h.2 with ⟨h', _⟩ | ⟨g', cap', cur, h', hb, hg, hnc, hcm, hcs, htake⟩
  · simp at h'
  · simp only [Value.slice.injEq, Option.some.injEq, Addr.mk.injEq, and_true, true_and] at h'
    obtain ⟨rfl, rfl⟩ := h'
    refine ⟨by simp; omega, .inr ⟨g, cap, cur, rfl, hb, hg, by omega, hcm, hcs, ?_⟩⟩
    rw [← htake, List.take_take, Nat.min_eq_left (by omega), Nat.mul_one]

theorem own_snoc (h : w.ownsRow base E 1 (.slice (some ⟨g, 0, none⟩) n cap) n xs) (hn : n < cap) (u : Value) : (w.setCell ⟨g, n, none⟩ u).ownsRow base E 1 (.slice (some ⟨g, 0, none⟩) (n + 1) cap) (n + 1) (xs ++ [u]) := by
  have hl := h.1
  rcases h.2 with ⟨h', _⟩ | ⟨g', cap', cur, h', hb, hg, hnc, hcm, hcs, htake⟩
  · simp at h'
  · simp only [Value.slice.injEq, Option.some.injEq, Addr.mk.injEq, and_true, true_and] at h'
    obtain ⟨rfl, rfl⟩ := h'
    refine ⟨by simp; omega, .inr ⟨g, cap, cur.setIfInBounds n u, rfl, hb, heap_setCell_same w g n cur E u hg, by omega, hcm, by simpa using hcs, ?_⟩⟩
    have hx : cur.toList.take n = xs := by rw [Nat.mul_one] at htake; exact htake
    have hlen : n < cur.toList.length := by rw [Array.length_toList, hcs]; omega
    rw [Nat.mul_one, Array.toList_setIfInBounds, List.take_add_one, List.take_set, List.set_eq_of_length_le (by rw [hx]; omega), hx, List.getElem?_set_self hlen]
    rfl

theorem own_setL : ∀ (L : List Value) {w : World} {n : Nat} {xs : List Value}, w.ownsRow base E 1 (.slice (some ⟨g, 0, none⟩) n cap) n xs → n + L.length ≤ cap → (setL w g n L).ownsRow base E 1 (.slice (some ⟨g, 0, none⟩) (n + L.length) cap) (n + L.length) (xs ++ L)
  | [], w, n, xs, h, _ => by simpa [setL] using h
  | u :: L, w, n, xs, h, hn => by
    simp only [List.length_cons] at hn
    have := own_setL L (own_snoc h (by omega) u) (by omega)
    rw [List.append_assoc, Nat.add_right_comm, Nat.add_assoc] at this
    exact this

theorem setL_other : ∀ (L : List Value) {w : World} {n k : Nat}, ¬ k = g → (setL w g n L).heap[k]? = w.heap[k]?
  | [], _, _, _, _ => rfl
  | _ :: L, w, n, k, h => (setL_other L h).trans (heap_setCell_other w ⟨g, n, none⟩ k _ h)
theorem setL_size : ∀ (L : List Value) {w : World} {n : Nat}, (setL w g n L).heap.size = w.heap.size
  | [], _, _ => rfl
  | _ :: L, w, n => (setL_size L).trans (by simp [World.setCell])
theorem setL_rest : ∀ (L : List Value) {w : World} {n : Nat}, (setL w g n L).os = w.os ∧ (setL w g n L).tape = w.tape ∧ (setL w g n L).output = w.output
  | [], _, _ => ⟨rfl, rfl, rfl⟩
  | _ :: L, _, _ => setL_rest L

/-- The cells of a row's spare room. -/
theorem own_spare (h : w.ownsRow base E 1 (.slice (some ⟨g, 0, none⟩) n cap) n xs) {k : Nat} (hk : k < cap) : (∃ u, w.cell? ⟨g, k, none⟩ = some u) ∧ w.frozen? ⟨g, k, none⟩ = false := by
  rcases h.2 with ⟨h', _⟩ | ⟨g', cap', cur, h', hb, hg, hnc, hcm, hcs, htake⟩
  · simp at h'
  · simp only [Value.slice.injEq, Option.some.injEq, Addr.mk.injEq, and_true, true_and] at h'
    obtain ⟨rfl, rfl⟩ := h'
    have hlt : k < cur.size := by omega
    exact ⟨⟨cur[k], by rw [cell_of_row w g k cur E (0, 0) hg]; exact Array.getElem?_eq_getElem hlt⟩, frozen_of_row w g k cur E hg⟩
end
end Go.Proofs.YtbdniedaofanpaaDoor
