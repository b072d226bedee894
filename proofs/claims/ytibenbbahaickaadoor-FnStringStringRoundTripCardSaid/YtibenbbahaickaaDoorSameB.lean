/- The helper that compares a slice of bytes with a string, at a slice that holds just the string's bytes: true; the world is as it was but for draws. Condition: lengths of at most 2^40. -/
import Derived.Test.YtibenbbahaickaaDoorProg
import Derived.Test.YtibenbbahaickaaDoorBase
import Derived.Lib.BufSteps
import Derived.Handy
import Derived.WalkLawsBesides
import Derived.WalkSpells
import Derived.Deep.QuietTactic
import Derived.BigQuiet
namespace Go.Proofs.YtibenbbahaickaaDoor
open Go.RowKit

/-- What is owned, its head frozen or not, reads as a slice. -/
theorem own_inF {w : World} {base : Nat} {e : TypeId} {v : Value} {n : Nat} {xs : List Value} (h : w.ownsRowF base e 1 v n xs) : ∃ A c, v = .slice A n c ∧ SlIn w w.heap.size A n c xs := by
  have hl : xs.length = n := by simpa using h.1
  rcases h.2 with ⟨h', h0⟩ | ⟨g, cap, cur, fz, h', hb, hg, hfz, hnc, hcm, hcs, htake⟩
  · subst h0
    have : xs = [] := List.eq_nil_of_length_eq_zero hl
    subst this
    exact ⟨none, 0, h', SlIn.nilSlice w _⟩
  · refine ⟨_, cap, h', fun e => (by cases e), hnc, hcm, hl, fun j u hu => ⟨g, 0, rfl, (Array.getElem?_eq_some_iff.1 hg).1, ?_⟩⟩
    have := h.cells (g := g) (by rw [h']; rfl) j u hu
    simpa [Addr.add_lit] using this

set_option maxHeartbeats 1000000 in
theorem same_any (A : Option Addr) (n c : Nat) (s : ByteArray) (w : World) (h : SlIn w w.heap.size A n c (s.data.toList.map bt)) (hn : n ≤ 1099511627776) :
    Calls Tryd.prog 7 #[.slice A n c, .string s] w fun e w' => e = .returned (.bool true) ∧ ∃ q, w' = w.drewN q := by
  have HS := hide h
  have hs : s.size = n := by
    have h1 := h.size
    have h2 : s.data.toList.length = s.size := Array.length_toList
    omega
  clear h
  subst hs
  have hne : ((s.size : Int) != (s.size : Int)) = false := by simp
  go_enter Tryd.func7, Tryd.ntmps7
  go_wp2
  go_loopw [5] (fun ix wr => ∃ k : Nat, k ≤ s.size ∧ ix = .int .i64 k ∧ ∃ q, wr = w.drewN q) (fun ix _ => s.size - (intOf ix).toNat)
  case atStart => exact ⟨0, Nat.zero_le _, rfl, 0, rfl⟩
  case round =>
    obtain ⟨k, hk, rfl, q, rfl⟩ := hrel
    by_cases hlt : k < s.size
    · obtain ⟨b, off, x, rfl, hb, hx, hc⟩ := HS.out.byte hlt
      have hy : s[k] = x := by
        have h1 : s.data.toList[k]? = some s[k] := by
          have hl : k < s.data.toList.length := by rw [Array.length_toList]; exact hlt
          rw [List.getElem?_eq_getElem hl]; rfl
        rw [hx] at h1
        exact (Option.some.inj h1).symm
      have hy2 : s[k].toNat = x.toNat := by rw [hy]
      clear hx hy
      have hne2 : ((x.toNat : Int) != (x.toNat : Int)) = false := by simp
      go_wp2
      go_quiet (fail)
      go_wp2
      go_roundw
      case rel => exact ⟨k + 1, by omega, by go_num, _, rfl⟩
      case measure => simp [intOf]; omega
    · go_wp2
      go_ret
      exact ⟨rfl, _, rfl⟩
end Go.Proofs.YtibenbbahaickaaDoor
