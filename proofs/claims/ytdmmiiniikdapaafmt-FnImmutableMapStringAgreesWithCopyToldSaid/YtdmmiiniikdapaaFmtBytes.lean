/- The bounds on the arguments: whoever gets past them holds short strings alone. -/
import Derived.Test.YtdmmiiniikdapaaFmtProg
import Derived.Test.YtdmmiiniikdapaaFmtCloneS
import Derived.Handy
import Derived.Outline
import Derived.WalkLawsBesides
import Derived.WalkSpells
set_option linter.unusedSimpArgs false
namespace Go.Proofs.YtdmmiiniikdapaaFmt
open Go.RowKit
/-- Some bool; true only where each string is short. -/
def ShortBool (zs : List ByteArray) (w : World) (e : Ending) (w' : World) : Prop := ∃ b : Bool, e = .returned (.bool b) ∧ (b = true → ∀ s ∈ zs, s.size ≤ 1048576) ∧ w = w'
def SomeInt (w : World) (e : Ending) (w' : World) : Prop := ∃ x : Int, e = .returned (.int .i64 x) ∧ w = w'
set_option maxHeartbeats 2000000 in
theorem bytes16 (A : Option Addr) (m d : Nat) (zs : List ByteArray) (B : Option Addr) (l c : Nat) (w : World) (hm : m ≤ 9223372036854775807) (h : SlIn w w.heap.size A m d (zs.map Value.string)) :
    Calls Tryf.prog 16 #[.slice A m d, .slice B l c] w (ShortBool zs w) := by
  have HS := hide h
  clear h
  go_enter Tryf.func16, Tryf.ntmps16
  go_wp2
  all_goals first
    | (go_ret; refine ⟨false, rfl, ?_, rfl⟩; intro h; cases h; done)
    | skip
  all_goals
    go_loop [5, 6] (fun t ix => ∃ (k : Nat) (x : Int), k ≤ m ∧ ix = .int .i64 k ∧ t = .int .i64 x ∧ Hid (∀ j s, j < k → zs[j]? = some s → s.size ≤ 1048576)) (fun _ ix => m - (intOf ix).toNat)
    case atStart => exact ⟨0, _, Nat.zero_le _, rfl, rfl, fun _ _ h => by omega⟩
    case round =>
      obtain ⟨k, x, hk, rfl, rfl, HP⟩ := hrel
      by_cases hlt : k < m
      · obtain ⟨b, off, y, hA, hb, hx, hc⟩ := HS.out.str hlt
        subst hA
        have HX := hide hx
        clear hx
        by_cases hys : y.size ≤ 1048576
        case neg =>
          go_wp2
          go_ret
          refine ⟨false, rfl, ?_, rfl⟩
          intro h
          cases h
        have HY := hide hys
        go_wp2
        all_goals first
          | (go_ret; refine ⟨false, rfl, ?_, rfl⟩; intro h; cases h; done)
          | skip
        go_round
        case rel => exact ⟨k + 1, _, by omega, by go_num, rfl, fun j s hj hs => by
          by_cases e : j = k
          · subst e
            rw [HX.out] at hs
            obtain rfl := Option.some.inj hs
            exact HY.out
          · exact HP.out j s (by omega) hs⟩
        case measure => simp [intOf]; omega
      · go_wp2
        all_goals
          go_ret
          first
            | (refine ⟨false, rfl, ?_, rfl⟩; intro h; cases h; done)
            | refine ⟨true, rfl, fun _ s hs => ?_, rfl⟩
              obtain ⟨j, hj, e⟩ := List.getElem_of_mem hs
              have hl := HS.out.len
              rw [List.length_map] at hl
              exact HP.out j s (by omega) (by rw [List.getElem?_eq_getElem hj, e])
set_option maxHeartbeats 2000000 in
theorem bytes6 (A : Option Addr) (m d : Nat) (zs : List ByteArray) (B : Option Addr) (l c : Nat) (w : World) (hm : m ≤ 9223372036854775807) (h : SlIn w w.heap.size A m d (zs.map Value.string)) :
    Calls Tryf.prog 6 #[.slice A m d, .slice B l c] w (SomeInt w) := by
  have HS := hide h
  clear h
  go_enter Tryf.func6, Tryf.ntmps6
  go_wp2
  go_loop [5, 6] (fun t ix => ∃ (k : Nat) (x : Int), k ≤ m ∧ ix = .int .i64 k ∧ t = .int .i64 x) (fun _ ix => m - (intOf ix).toNat)
  case atStart => exact ⟨0, _, Nat.zero_le _, rfl, rfl⟩
  case round =>
    obtain ⟨k, x, hk, rfl, rfl⟩ := hrel
    by_cases hlt : k < m
    · obtain ⟨b, off, y, hA, hb, hx, hc⟩ := HS.out.str hlt
      subst hA
      clear hx
      go_wp2
      all_goals first
        | (go_ret; exact ⟨_, rfl, rfl⟩)
        | skip
      go_round
      case rel => exact ⟨k + 1, _, by omega, by go_num, rfl⟩
      case measure => simp [intOf]; omega
    · go_wp2
      go_ret
      exact ⟨_, rfl, rfl⟩
end Go.Proofs.YtdmmiiniikdapaaFmt
