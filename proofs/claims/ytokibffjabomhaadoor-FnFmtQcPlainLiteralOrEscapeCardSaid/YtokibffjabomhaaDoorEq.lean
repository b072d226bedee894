/- The contract of the helper that compares two slices of bytes: true exactly where they hold the same bytes; the world is as it was but for draws. Condition: lengths of at most 2^40. -/
import Derived.Test.YtokibffjabomhaaDoorProg
import Derived.Test.YtokibffjabomhaaDoorBase
import Derived.Handy
import Derived.WalkLawsBesides
import Derived.WalkSpells
import Derived.Deep.QuietTactic
import Derived.BigQuiet
namespace Go.Proofs.YtokibffjabomhaaDoor
open Go.RowKit

theorem take_more {xs ys : List UInt8} {k : Nat} {x : UInt8} (h : xs.take k = ys.take k) (hx : xs[k]? = some x) (hy : ys[k]? = some x) : xs.take (k + 1) = ys.take (k + 1) := by
  rw [List.take_add_one, List.take_add_one, h, hx, hy]

theorem ne_at {xs ys : List UInt8} {k : Nat} {x y : UInt8} (hx : xs[k]? = some x) (hy : ys[k]? = some y) (hne : ¬ x = y) : (xs == ys) = false := by
  rw [beq_eq_false_iff_ne]
  rintro rfl
  rw [hx] at hy
  exact hne (Option.some.inj hy)

theorem ne_len {xs ys : List UInt8} (h : ¬ xs.length = ys.length) : (xs == ys) = false := by
  rw [beq_eq_false_iff_ne]
  rintro rfl
  exact h rfl

theorem eq_all {xs ys : List UInt8} {n : Nat} (h : xs.take n = ys.take n) (hx : xs.length = n) (hy : ys.length = n) : (xs == ys) = true := by
  rw [List.take_of_length_le (by omega), List.take_of_length_le (by omega)] at h
  simp [h]

set_option maxHeartbeats 1000000 in
theorem eq_any (A A' : Option Addr) (n c m d : Nat) (xs ys : List UInt8) (w : World) (h : SlIn w w.heap.size A n c (xs.map bt)) (h' : SlIn w w.heap.size A' m d (ys.map bt)) (hn : n ≤ 1099511627776) (hm : m ≤ 1099511627776) :
    Calls Tryd.prog 11 #[.slice A n c, .slice A' m d] w fun e w' => e = .returned (.bool (xs == ys)) ∧ ∃ q, w' = w.drewN q := by
  have HS := hide h
  have HT := hide h'
  have HX := hide h.size
  have HY := hide h'.size
  clear h h'
  by_cases hnm : n = m
  · subst hnm
    have hne : ((n : Int) != (n : Int)) = false := by simp
    go_enter Tryd.func11, Tryd.ntmps11
    go_wp2
    go_loopw [5] (fun ix wr => ∃ k : Nat, k ≤ n ∧ ix = .int .i64 k ∧ Hid (xs.take k = ys.take k) ∧ ∃ q, wr = w.drewN q) (fun ix _ => n - (intOf ix).toNat)
    case atStart => exact ⟨0, Nat.zero_le _, rfl, rfl, 0, rfl⟩
    case round =>
      obtain ⟨k, hk, rfl, HE, q, rfl⟩ := hrel
      by_cases hlt : k < n
      · obtain ⟨b, off, x, rfl, hb, hx, hc⟩ := HS.out.byte hlt
        obtain ⟨b', off', y, rfl, hb', hy, hc'⟩ := HT.out.byte hlt
        have X := hide hx
        have Y := hide hy
        clear hx hy
        by_cases hxy : x = y
        · subst hxy
          have hne2 : ((x.toNat : Int) != (x.toNat : Int)) = false := by simp
          go_wp2
          go_quiet (fail)
          go_wp2
          go_roundw
          case rel => exact ⟨k + 1, by omega, by go_num, take_more HE.out X.out Y.out, _, rfl⟩
          case measure => simp [intOf]; omega
        · have hne2 : ((x.toNat : Int) != (y.toNat : Int)) = true := by
            rw [bne_iff_ne]
            intro e
            exact hxy (UInt8.toNat_inj.1 (by omega))
          have HF := hide (ne_at X.out Y.out hxy)
          go_wp2
          go_quiet (fail)
          go_wp2
          go_ret
          exact ⟨by rw [HF.out]; rfl, _, World.drewN_drewN _ _ _⟩
      · go_wp2
        go_ret
        have : k = n := by omega
        subst this
        exact ⟨by rw [eq_all HE.out HX.out HY.out]; rfl, _, rfl⟩
  · have hne : ((n : Int) != (m : Int)) = true := by rw [bne_iff_ne]; omega
    have HF := hide (ne_len (xs := xs) (ys := ys) (by rw [HX.out, HY.out]; exact hnm))
    go_enter Tryd.func11, Tryd.ntmps11
    go_wp2
    go_ret
    exact ⟨by rw [HF.out]; rfl, 0, rfl⟩
end Go.Proofs.YtokibffjabomhaaDoor
