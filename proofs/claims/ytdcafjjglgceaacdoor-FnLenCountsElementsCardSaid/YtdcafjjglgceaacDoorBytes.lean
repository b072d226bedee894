/- The helper that bounds the arguments' total length: it answers true or false and leaves memory as it was. And how many different keys there are. Conditions: at most 4096 keys. -/
import Derived.Test.YtdcafjjglgceaacDoorCloneS
import Derived.Outline
import Derived.Deep.QuietTactic
import Derived.BigQuiet
import Derived.RegionTactic
import Derived.Maps.Views
namespace Go.Proofs.YtdcafjjglgceaacDoor
open Go.RowKit

/-- Some bool comes back. -/
def SomeBool (w : World) (e : Ending) (w' : World) : Prop := ∃ b : Bool, e = .returned (.bool b) ∧ w = w'

set_option maxHeartbeats 2000000 in
theorem bytes_any (k n : Int) (s : ByteArray) (A : Option Addr) (l c : Nat) (B : Option Addr) (m d : Nat) (zs : List ByteArray) (w : World) (hs : s.size ≤ 9223372036854775807) (hl : l ≤ 9223372036854775807) (hm : m ≤ 9223372036854775807) (h : SlIn w w.heap.size B m d (zs.map Value.string)) :
    Calls Tryd.prog 4 #[.int .i64 k, .int .i64 n, .string s, .slice A l c, .slice B m d] w (SomeBool w) := by
  have HS := hide h
  clear h
  go_enter Tryd.func4, Tryd.ntmps4
  go_wp2
  all_goals first
    | (go_ret; exact ⟨_, rfl, rfl⟩)
    | skip
  · go_loop [11, 12] (fun t ix => ∃ (k : Nat) (x : Int), k ≤ m ∧ ix = .int .i64 k ∧ t = .int .i64 x) (fun _ ix => m - (intOf ix).toNat)
    case atStart => exact ⟨0, _, Nat.zero_le _, rfl, rfl⟩
    case round =>
      obtain ⟨k, x, hk, rfl, rfl⟩ := hrel
      by_cases hlt : k < m
      · obtain ⟨b, off, y, hA, hb, hx, hc⟩ := HS.out.str hlt
        subst hA
        clear hx
        go_wp2
        all_goals first
          | (go_ret; exact ⟨_, rfl, rfl⟩)
          | skip
        go_round
        case rel => exact ⟨k + 1, _, by omega, by go_num, rfl⟩
        case measure => simp [intOf]; omega
      · go_wp2
        go_ret
        exact ⟨_, rfl, rfl⟩

def lits (zs : List ByteArray) : List Lit := zs.map fun s => Lit.string s.data.toList

/-- How many different keys are among the first k. -/
def cnt (zs : List ByteArray) (k : Nat) : Nat := Maps.size (Maps.setOf (H := Unit) .nil (lits (zs.take k)))

theorem lits_key (zs : List ByteArray) : ∀ x ∈ lits zs, WideAt.IsKeyLit x := by
  intro x hx
  obtain ⟨_, _, rfl⟩ := List.mem_map.1 hx
  trivial
theorem lits_snoc {zs : List ByteArray} {k : Nat} {x : ByteArray} (h : zs[k]? = some x) : lits (zs.take (k + 1)) = lits (zs.take k) ++ [.string x.data.toList] := by
  obtain ⟨hl, he⟩ := List.getElem?_eq_some_iff.1 h
  rw [List.take_succ_eq_append_getElem hl, he]
  simp [lits]
theorem same_iff (x y : ByteArray) : (Lit.string y.data.toList).sameKey (.string x.data.toList) = (y.toList == x.toList) := by
  rw [ByteArray.toList_eq, ByteArray.toList_eq]
  rfl
theorem cnt_succ {zs : List ByteArray} {k : Nat} {x : ByteArray} (h : zs[k]? = some x) : cnt zs (k + 1) = if (lits (zs.take k)).any (fun y => y.sameKey (.string x.data.toList)) then cnt zs k else cnt zs k + 1 := by
  unfold cnt
  rw [lits_snoc h, Maps.setOf_snoc, Maps.size_put (Maps.tidy_setOf _ _ (lits_key _)), Maps.has_setOf _ _ _ (lits_key _)]
theorem any_iff {zs : List ByteArray} {k : Nat} {x : ByteArray} : (lits (zs.take k)).any (fun y => y.sameKey (.string x.data.toList)) = true ↔ ∃ j y, j < k ∧ zs[j]? = some y ∧ (y.toList == x.toList) = true := by
  rw [List.any_eq_true]
  constructor
  · rintro ⟨l, hl, hs⟩
    obtain ⟨y, hy, rfl⟩ := List.mem_map.1 hl
    obtain ⟨j, hj⟩ := List.mem_iff_getElem?.1 hy
    rw [List.getElem?_take] at hj
    split at hj
    · exact ⟨j, y, ‹_›, hj, by rw [← same_iff]; exact hs⟩
    · cases hj
  · rintro ⟨j, y, hj, hy, hs⟩
    refine ⟨.string y.data.toList, List.mem_map.2 ⟨y, ?_, rfl⟩, by rw [same_iff]; exact hs⟩
    apply List.mem_iff_getElem?.2
    exact ⟨j, by rw [List.getElem?_take, if_pos hj]; exact hy⟩
theorem cnt_hit {zs : List ByteArray} {k j : Nat} {x y : ByteArray} (h : zs[k]? = some x) (hj : j < k) (hy : zs[j]? = some y) (hs : (y.toList == x.toList) = true) : cnt zs (k + 1) = cnt zs k := by
  rw [cnt_succ h, if_pos (any_iff.2 ⟨j, y, hj, hy, hs⟩)]
theorem cnt_miss {zs : List ByteArray} {k : Nat} {x : ByteArray} (h : zs[k]? = some x) (hn : ∀ j y, j < k → zs[j]? = some y → (y.toList == x.toList) = false) : cnt zs (k + 1) = cnt zs k + 1 := by
  rw [cnt_succ h, if_neg]
  intro ha
  obtain ⟨j, y, hj, hy, hs⟩ := any_iff.1 ha
  rw [hn j y hj hy] at hs
  cases hs
theorem cnt_le (zs : List ByteArray) : ∀ k, k ≤ zs.length → cnt zs k ≤ k
  | 0, _ => Nat.le_refl _
  | k + 1, h => by
    have ih := cnt_le zs k (by omega)
    rw [cnt_succ (List.getElem?_eq_getElem (by omega))]
    split <;> omega

set_option maxHeartbeats 2000000 in
theorem distinct_any (B : Option Addr) (m d : Nat) (zs : List ByteArray) (w : World) (hm : m ≤ 4096) (h : SlIn w w.heap.size B m d (zs.map Value.string)) :
    Calls Tryd.prog 8 #[.slice B m d] w fun e w' => e = .returned (.int .i64 (cnt zs m : Int)) ∧ ∃ q, w' = w.drewN q := by
  have HS := hide h
  have HL := hide (show zs.length = m by simpa using h.len)
  clear h
  go_enter Tryd.func8, Tryd.ntmps8
  go_wp2
  go_loopw [3, 4] (fun n ix wr => ∃ k : Nat, k ≤ m ∧ ix = .int .i64 k ∧ n = .int .i64 (cnt zs k : Int) ∧ ∃ q, wr = w.drewN q) (fun _ ix _ => m - (intOf ix).toNat)
  case atStart => exact ⟨0, Nat.zero_le _, rfl, rfl, 0, rfl⟩
  case round =>
    obtain ⟨k, hk, rfl, rfl, q, rfl⟩ := hrel
    by_cases hlt : k < m
    · obtain ⟨b, off, x, hA, hb, hx, hc⟩ := HS.out.str hlt
      subst hA
      have HX := hide hx
      have hcb : cnt zs k ≤ 4096 := Nat.le_trans (cnt_le zs k (by rw [HL.out]; omega)) (by omega)
      clear hx
      go_wp2
      go_loopw [5, 6] (fun sn jx wr => sn = .bool false ∧ ∃ j : Nat, j ≤ k ∧ jx = .int .i64 j ∧ Hid (∀ i y, i < j → zs[i]? = some y → (y.toList == x.toList) = false) ∧ ∃ q, wr = w.drewN q) (fun _ jx _ => k - (intOf jx).toNat)
      case atStart => exact ⟨rfl, 0, Nat.zero_le _, rfl, hide (fun i y h => absurd h (by omega)), q, rfl⟩
      case round =>
        obtain ⟨rfl, j, hj, rfl, HN, q2, rfl⟩ := hrel
        by_cases hjk : j < k
        · obtain ⟨b', off', y, hA', hb', hy, hc'⟩ := HS.out.str (show j < m by omega)
          simp only [Option.some.injEq, Addr.mk.injEq, and_true] at hA'
          obtain ⟨rfl, rfl⟩ := hA'
          have HY := hide hy
          clear hy
          have hjm : j < m := by omega
          cases hs : (y.toList == x.toList) with
          | true =>
            go_wp2
            go_quiet (fail)
            go_wp2
            go_roundw
            case rel => exact ⟨k + 1, by omega, by go_num, by rw [cnt_hit HX.out hjk HY.out hs], _, rfl⟩
            case measure => simp [intOf]; omega
          | false =>
            go_wp2
            go_quiet (fail)
            go_wp2
            go_roundw
            case rel =>
              refine ⟨rfl, j + 1, by omega, by go_num, hide (fun i z hi hz => ?_), _, rfl⟩
              rcases Nat.lt_or_ge i j with h | h
              · exact HN.out i z h hz
              · obtain rfl : i = j := by omega
                obtain rfl : z = y := Option.some.inj (hz.symm.trans HY.out)
                exact hs
            case measure => simp [intOf]; omega
        · obtain rfl : k = j := by omega
          go_wp2
          go_roundw
          case rel => exact ⟨k + 1, by omega, by go_num, by rw [cnt_miss HX.out HN.out]; go_num, _, rfl⟩
          case measure => simp [intOf]; omega
    · obtain rfl : m = k := by omega
      go_wp2
      go_ret
      exact ⟨rfl, _, rfl⟩
end Go.Proofs.YtdcafjjglgceaacDoor
