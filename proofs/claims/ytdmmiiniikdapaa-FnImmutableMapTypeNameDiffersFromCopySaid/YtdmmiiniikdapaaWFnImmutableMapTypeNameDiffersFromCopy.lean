/- The law FnImmutableMapTypeNameDiffersFromCopy walked: the call returns true and writes nothing that was there. Its conditions: none beyond the arguments' types. -/
import Derived.Test.YtdmmiiniikdapaaProg
import Derived.Test.YtdmmiiniikdapaaBase
import Derived.Handy
import Derived.Outline
import Derived.WalkLawsBesides
import Derived.WalkSpells
import Derived.Deep.QuietTactic
import Derived.BigQuiet
import Derived.RegionTactic
import Derived.ChangeAlike
import Derived.Test.YtdmmiiniikdapaaCopy
namespace Go.Proofs.Ytdmmiiniikdapaa.fnImmutableMapTypeNameDiffersFromCopy
open Go.RowKit Go.Proofs.Ytdmmiiniikdapaa
def SomeBool (w : World) (e : Ending) (w' : World) : Prop := ∃ b : Bool, e = .returned (.bool b) ∧ w = w'
def SomeInt (w : World) (e : Ending) (w' : World) : Prop := ∃ x : Int, e = .returned (.int .i64 x) ∧ w = w'
theorem sl_of {w2 w' : World} {A : Option Addr} {n c : Nat} {xs : List Value} (hb : Below w2.heap.size w2 w') (h : SlIn w2 w2.heap.size A n c xs) : SlIn w' w'.heap.size A n c xs := (h.below hb (Nat.le_refl _)).mono hb.size
set_option maxHeartbeats 2000000 in
theorem bytes4 (A : Option Addr) (m d : Nat) (zs : List ByteArray) (B : Option Addr) (l c : Nat) (w : World) (hm : m ≤ 9223372036854775807) (h : SlIn w w.heap.size A m d (zs.map Value.string)) :
    Calls Try.prog 4 #[.slice A m d, .slice B l c] w (SomeBool w) := by
  have HS := hide h
  clear h
  go_enter Try.func4, Try.ntmps4
  go_wp2
  all_goals first
    | (go_ret; exact ⟨_, rfl, rfl⟩)
    | skip
  all_goals
    go_loop [5, 6] (fun t ix => ∃ (k : Nat) (x : Int), k ≤ m ∧ ix = .int .i64 k ∧ t = .int .i64 x) (fun _ ix => m - (intOf ix).toNat)
    case atStart => exact ⟨0, _, Nat.zero_le _, rfl, rfl⟩
    case round =>
      obtain ⟨k, x, hk, rfl, rfl⟩ := hrel
      by_cases hlt : k < m
      · obtain ⟨b, off, y, hA, hb, hx, hc⟩ := HS.out.str hlt
        subst hA
        clear hx
        go_wp2
        all_goals first
          | (go_ret; exact ⟨_, rfl, rfl⟩)
          | skip
        go_round
        case rel => exact ⟨k + 1, _, by omega, by go_num, rfl⟩
        case measure => simp [intOf]; omega
      · go_wp2
        all_goals
          go_ret
          exact ⟨_, rfl, rfl⟩
set_option maxHeartbeats 2000000 in
theorem bytes5 (A : Option Addr) (m d : Nat) (zs : List ByteArray) (B : Option Addr) (l c : Nat) (w : World) (hm : m ≤ 9223372036854775807) (h : SlIn w w.heap.size A m d (zs.map Value.string)) :
    Calls Try.prog 5 #[.slice A m d, .slice B l c] w (SomeInt w) := by
  have HS := hide h
  clear h
  go_enter Try.func5, Try.ntmps5
  go_wp2
  go_loop [5, 6] (fun t ix => ∃ (k : Nat) (x : Int), k ≤ m ∧ ix = .int .i64 k ∧ t = .int .i64 x) (fun _ ix => m - (intOf ix).toNat)
  case atStart => exact ⟨0, _, Nat.zero_le _, rfl, rfl⟩
  case round =>
    obtain ⟨k, x, hk, rfl, rfl⟩ := hrel
    by_cases hlt : k < m
    · obtain ⟨b, off, y, hA, hb, hx, hc⟩ := HS.out.str hlt
      subst hA
      clear hx
      go_wp2
      all_goals first
        | (go_ret; exact ⟨_, rfl, rfl⟩)
        | skip
      go_round
      case rel => exact ⟨k + 1, _, by omega, by go_num, rfl⟩
      case measure => simp [intOf]; omega
    · go_wp2
      go_ret
      exact ⟨_, rfl, rfl⟩
set_option maxRecDepth 100000 in
set_option linter.unusedVariables false in
set_option maxHeartbeats 4000000 in
theorem walk (a0 : Option Addr) (len0 cap0 : Nat) (z0 : List ByteArray) (a1 : Option Addr) (len1 cap1 : Nat) (z1 : List Int) (w : World) (w0 : SlIn w w.heap.size a0 len0 cap0 (z0.map Value.string)) (wf0 : ∀ s ∈ z0, s.size ≤ maxLen) (w1 : SlIn w w.heap.size a1 len1 cap1 (z1.map (Value.int .i64))) (wf1 : ∀ n ∈ z1, (Lit.int .i64 n).wf = true) :
    Calls Try.prog 3 #[.slice a0 len0 cap0, .slice a1 len1 cap1] w fun e w' => e = .returned (.bool true) ∧ Below w.heap.size w w' := by
  have t0 := w0.top
  have l0 := w0.le
  have t1 := w1.top
  have l1 := w1.le
  unfold maxLen at t0 t1
  have S0 := hide w0
  have S1 := hide w1
  have W0 := hide wf0
  clear w0 w1 wf0 wf1
  go_enter Try.func3, Try.ntmps3
  go_wp2_with fail
  refine (bytes4 a0 len0 cap0 z0 a1 len1 cap1 w (by omega) S0.out).mono ?_
  rintro e w' ⟨b, rfl, rfl⟩
  cases b with
  | false =>
    go_wp2
    go_ret
    exact ⟨rfl, Below.refl _ _⟩
  | true =>
    by_cases h0 : len0 ≤ 4096
    · by_cases h1 : len1 ≤ 4096
      · go_wp2_with fail
        refine (bytes5 a0 len0 cap0 z0 a1 len1 cap1 w (by omega) S0.out).mono ?_
        rintro e w' ⟨x, rfl, rfl⟩
        by_cases hx : x ≤ 1048576
        · go_wp2_with fail
          refine (cloneS_any a0 len0 cap0 z0 w S0.out (by omega)).mono ?_
          rintro e w1 ⟨A0, c0, rfl, ho1, hb1⟩
          have O1 := hide (SlIn.of_own ho1)
          have B1 := hide hb1
          clear ho1 hb1
          go_wp2_with fail
          refine (cloneI_any a1 len1 cap1 z1 w1 (sl_of B1.out S1.out) (by omega)).mono ?_
          rintro e w2 ⟨A1, c1, rfl, ho2, hb2⟩
          have P2 := hide (SlIn.of_own ho2)
          have O2 := hide (sl_of hb2 O1.out)
          have B2 := hide (B1.out.trans (hb2.mono B1.out.size))
          clear ho2 hb2 O1 B1
          go_wp2_with fail
          refine (map_any A0 len0 c0 z0 A1 len1 c1 z1 w2 O2.out P2.out W0.out h0 h1).mono ?_
          rintro e w3 ⟨ob, bm, n, D, rfl, him, hb3⟩
          have M3 := hide him
          have B3 := hide (B2.out.trans (hb3.mono B2.out.size))
          clear him hb3 B2
          go_wp2_with (go_at_call 9; go_in)
          refine (copy_any ob bm n D w3 M3.out).mono ?_
          rintro e w4 ⟨y, rfl, hb4⟩
          have B4 := hide (B3.out.trans (hb4.mono B3.out.size))
          clear hb4
          go_wp2
          go_ret
          exact ⟨rfl, B4.out⟩
        · go_wp2
          go_ret
          exact ⟨rfl, Below.refl _ _⟩
      · go_wp2
        go_ret
        exact ⟨rfl, Below.refl _ _⟩
    · go_wp2
      go_ret
      exact ⟨rfl, Below.refl _ _⟩
end Go.Proofs.Ytdmmiiniikdapaa.fnImmutableMapTypeNameDiffersFromCopy
