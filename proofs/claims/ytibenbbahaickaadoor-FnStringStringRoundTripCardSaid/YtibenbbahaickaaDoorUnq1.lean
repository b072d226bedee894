/- The helpers of the law's decoder by contracts: the value of a hexadecimal digit, a simple escape's byte, a rune appended as UTF-8 onto a row of the call's own. Conditions: digits below 16; the listed escapes; runes from 128 on. -/
import Derived.Test.YtibenbbahaickaaDoorProg
import Derived.Test.YtibenbbahaickaaDoorBase
import Derived.Test.YtibenbbahaickaaDoorSegs
import Derived.Laws.BitsLemmas
import Derived.Lib.BufSteps
import Derived.Handy
import Derived.Outline
import Derived.WalkLawsBesides
import Derived.WalkSpells
import Derived.Deep.QuietTactic
import Derived.BigQuiet
namespace Go.Proofs.YtibenbbahaickaaDoor
open Go.RowKit

theorem wraps62 (n : Int) (h0 : 0 ≤ n) (h1 : n < 2 ^ 62) : IntKind.i64.wrap n = n := by rw [IntKind.wrap_i64]; omega
theorem and_i64 (i : Nat) (hi : i ≤ 62) (x : Int) (h0 : 0 ≤ x) (h1 : x < 4611686018427387904) : bits .and .i64 x (2 ^ i - 1) = x % 2 ^ i := bits_mask .i64 62 (by decide) wraps62 i hi x h0 (by omega)
theorem or_i64 (i : Nat) (x y : Int) (hx0 : 0 ≤ x) (hx : x % 2 ^ i = 0) (hx1 : x < 4611686018427387904) (hy0 : 0 ≤ y) (hy : y < 2 ^ i) (hy1 : y < 4611686018427387904) : bits .or .i64 x y = x + y :=
  bits_join .i64 62 (by decide) wraps62 i x y hx0 hx (by omega) hy0 hy (by omega)

/-- A digit as a byte. -/
def hexN (d : Nat) : Nat := if d < 10 then 48 + d else 87 + d
theorem hexN_eq (d : Nat) : Lib.hexDigit d = (hexN d : Int) := by
  unfold Lib.hexDigit hexN
  split <;> simp

set_option maxHeartbeats 1000000 in
theorem hexVal_any (x d : Nat) (hx : x = hexN d) (hd : d < 16) (w : World) : Calls Tryd.prog 10 #[.int .u8 (x : Int)] w fun e w' => e = .returned (.int .i64 (d : Int)) ∧ w' = w := by
  unfold hexN at hx
  by_cases h : d < 10
  · rw [if_pos h] at hx; subst hx
    go_enter Tryd.func10, Tryd.ntmps10
    go_wp2
    go_ret
    exact ⟨congrArg (fun z => Ending.returned (.int .i64 z)) (by omega), rfl⟩
  · rw [if_neg h] at hx; subst hx
    go_enter Tryd.func10, Tryd.ntmps10
    go_wp2
    go_ret
    exact ⟨congrArg (fun z => Ending.returned (.int .i64 z)) (by omega), rfl⟩

theorem simple_any (e : Int) (c : Nat) (h : (e, c) ∈ plainEsc) (w : World) : Calls Tryd.prog 9 #[.int .u8 e] w fun e' w' => e' = .returned (.int .u8 (c : Int)) ∧ w' = w := by
  simp only [plainEsc, List.mem_cons, Prod.mk.injEq, List.not_mem_nil, or_false] at h
  rcases h with ⟨rfl, rfl⟩ | ⟨rfl, rfl⟩ | ⟨rfl, rfl⟩ | ⟨rfl, rfl⟩ | ⟨rfl, rfl⟩ | ⟨rfl, rfl⟩ | ⟨rfl, rfl⟩
  all_goals (
    go_enter Tryd.func9, Tryd.ntmps9
    go_wp2
    go_ret
    exact ⟨rfl, rfl⟩)
theorem simple_none (e : Int) (h : e = 120 ∨ e = 117 ∨ e = 85) (w : World) : Calls Tryd.prog 9 #[.int .u8 e] w fun e' w' => e' = .returned (.int .u8 0) ∧ w' = w := by
  rcases h with rfl | rfl | rfl
  all_goals (
    go_enter Tryd.func9, Tryd.ntmps9
    go_wp2
    go_ret
    exact ⟨rfl, rfl⟩)

theorem info_byte : (Tryd.prog.info? 5).map (fun i => (i.zero, i.size, i.bytes)) = some (some (.int .u8 0), 1, 1) := by kernel_rfl

section
variable (v : Value) (n : Nat) (xs : List Value) (B : Nat) (W0 w : World)
set_option maxHeartbeats 2000000 in
theorem appRune2 (r : Int) (hb : Lib.OwnBuf B 5 v n xs W0 w) (hn : n + 10 ≤ 140737488355328) (h0 : 128 ≤ r) (h1 : r < 2048) :
    Calls Tryd.prog 11 #[v, .int .i64 r] w fun e w' => ∃ v', e = .returned v' ∧ Lib.OwnBuf B 5 v' (n + 2) (xs ++ [.int .u8 (192 + r / 64), .int .u8 (128 + r % 64)]) W0 w' := by
  obtain ⟨i0, hi, hz0, hz1, hz2⟩ := info_parts info_byte
  have o1 : bits .or .i64 192 (r / 64) = 192 + r / 64 := or_i64 6 _ _ (by omega) (by omega) (by omega) (by omega) (by omega) (by omega)
  have m1 : bits .and .i64 r 63 = r % 64 := and_i64 6 (by omega) _ (by omega) (by omega)
  have o2 : bits .or .i64 128 (r % 64) = 128 + r % 64 := or_i64 6 _ _ (by omega) (by omega) (by omega) (by omega) (by omega) (by omega)
  go_enter Tryd.func11, Tryd.ntmps11
  go_wp2_with (at_builtin; refine Lib.wpList_append_byte rfl _ _ 30 rfl B 5 i0 Tryd.underlying30 hi hz0 hz1 hz2 _ _ _ rfl W0 _ _ (by assumption) rfl (by omega) ?_; intro _ _ hb)
  go_ret
  exact ⟨_, rfl, by simpa [List.append_assoc] using hb⟩
set_option maxHeartbeats 2000000 in
theorem appRune3 (r : Int) (hb : Lib.OwnBuf B 5 v n xs W0 w) (hn : n + 10 ≤ 140737488355328) (h0 : 2048 ≤ r) (h1 : r < 65536) :
    Calls Tryd.prog 11 #[v, .int .i64 r] w fun e w' => ∃ v', e = .returned v' ∧ Lib.OwnBuf B 5 v' (n + 3) (xs ++ [.int .u8 (224 + r / 4096), .int .u8 (128 + r / 64 % 64), .int .u8 (128 + r % 64)]) W0 w' := by
  obtain ⟨i0, hi, hz0, hz1, hz2⟩ := info_parts info_byte
  have o1 : bits .or .i64 224 (r / 4096) = 224 + r / 4096 := or_i64 4 _ _ (by omega) (by omega) (by omega) (by omega) (by omega) (by omega)
  have m0 : bits .and .i64 (r / 64) 63 = r / 64 % 64 := and_i64 6 (by omega) _ (by omega) (by omega)
  have o0 : bits .or .i64 128 (r / 64 % 64) = 128 + r / 64 % 64 := or_i64 6 _ _ (by omega) (by omega) (by omega) (by omega) (by omega) (by omega)
  have m1 : bits .and .i64 r 63 = r % 64 := and_i64 6 (by omega) _ (by omega) (by omega)
  have o2 : bits .or .i64 128 (r % 64) = 128 + r % 64 := or_i64 6 _ _ (by omega) (by omega) (by omega) (by omega) (by omega) (by omega)
  go_enter Tryd.func11, Tryd.ntmps11
  go_wp2_with (at_builtin; refine Lib.wpList_append_byte rfl _ _ 30 rfl B 5 i0 Tryd.underlying30 hi hz0 hz1 hz2 _ _ _ rfl W0 _ _ (by assumption) rfl (by omega) ?_; intro _ _ hb)
  go_ret
  exact ⟨_, rfl, by simpa [List.append_assoc] using hb⟩
set_option maxHeartbeats 2000000 in
theorem appRune4 (r : Int) (hb : Lib.OwnBuf B 5 v n xs W0 w) (hn : n + 10 ≤ 140737488355328) (h0 : 65536 ≤ r) (h1 : r ≤ 1114111) :
    Calls Tryd.prog 11 #[v, .int .i64 r] w fun e w' => ∃ v', e = .returned v' ∧ Lib.OwnBuf B 5 v' (n + 4) (xs ++ [.int .u8 (240 + r / 262144), .int .u8 (128 + r / 4096 % 64), .int .u8 (128 + r / 64 % 64), .int .u8 (128 + r % 64)]) W0 w' := by
  obtain ⟨i0, hi, hz0, hz1, hz2⟩ := info_parts info_byte
  have o1 : bits .or .i64 240 (r / 262144) = 240 + r / 262144 := or_i64 3 _ _ (by omega) (by omega) (by omega) (by omega) (by omega) (by omega)
  have m3 : bits .and .i64 (r / 4096) 63 = r / 4096 % 64 := and_i64 6 (by omega) _ (by omega) (by omega)
  have o3 : bits .or .i64 128 (r / 4096 % 64) = 128 + r / 4096 % 64 := or_i64 6 _ _ (by omega) (by omega) (by omega) (by omega) (by omega) (by omega)
  have m0 : bits .and .i64 (r / 64) 63 = r / 64 % 64 := and_i64 6 (by omega) _ (by omega) (by omega)
  have o0 : bits .or .i64 128 (r / 64 % 64) = 128 + r / 64 % 64 := or_i64 6 _ _ (by omega) (by omega) (by omega) (by omega) (by omega) (by omega)
  have m1 : bits .and .i64 r 63 = r % 64 := and_i64 6 (by omega) _ (by omega) (by omega)
  have o2 : bits .or .i64 128 (r % 64) = 128 + r % 64 := or_i64 6 _ _ (by omega) (by omega) (by omega) (by omega) (by omega) (by omega)
  go_enter Tryd.func11, Tryd.ntmps11
  go_wp2_with (at_builtin; refine Lib.wpList_append_byte rfl _ _ 30 rfl B 5 i0 Tryd.underlying30 hi hz0 hz1 hz2 _ _ _ rfl W0 _ _ (by assumption) rfl (by omega) ?_; intro _ _ hb)
  go_ret
  exact ⟨_, rfl, by simpa [List.append_assoc] using hb⟩

theorem bts_enc (r : Int) : (Lib.encodeRune r).map bt = Lib.intCells (Lib.encodeRuneZ r) := by
  rw [← enc_map]
  simp [Lib.intCells, List.map_map, Function.comp_def]

/-- A rune from 128 on, appended. -/
theorem appRune_any (r : Nat) (hb : Lib.OwnBuf B 5 v n xs W0 w) (hn : n + 10 ≤ 140737488355328) (h0 : 128 ≤ r) (hv : Lib.validRune (r : Int) = true) :
    Calls Tryd.prog 11 #[v, .int .i64 (r : Int)] w fun e w' => ∃ v', e = .returned v' ∧ Lib.OwnBuf B 5 v' (n + (Lib.encodeRune (r : Int)).length) (xs ++ (Lib.encodeRune (r : Int)).map bt) W0 w' := by
  have hr : ¬ (((r : Int) < 0 ∨ (55296 ≤ (r : Int) ∧ (r : Int) ≤ 57343)) ∨ 1114111 < (r : Int)) := by
    simp [Lib.validRune] at hv
    omega
  rw [bts_enc, enc_len]
  by_cases a : (r : Int) < 2048
  · rw [Lib.encodeRuneZ_two (by omega) (by omega)]
    exact appRune2 v n xs B W0 w r hb hn (by omega) a
  · by_cases b : (r : Int) < 65536
    · rw [Lib.encodeRuneZ_three (by omega)]
      exact appRune3 v n xs B W0 w r hb hn (by omega) b
    · have e := Lib.encodeRuneZ_four (r := (r : Int)) (by omega) (by omega)
      rw [e]
      exact appRune4 v n xs B W0 w r hb hn (by omega) (by omega)
end
end Go.Proofs.YtibenbbahaickaaDoor
