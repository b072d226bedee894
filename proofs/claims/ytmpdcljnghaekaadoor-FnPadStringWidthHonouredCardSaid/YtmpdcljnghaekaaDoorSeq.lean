/- The law's own rune counter: zzSeqLen is the width of the model's decoder, zzRuneCount its count of runes. Conditions: at most 2^22 bytes. -/
import Derived.Test.YtmpdcljnghaekaaDoorProg
import Derived.Test.YtmpdcljnghaekaaDoorBase
import Derived.Lib.RuneCount
import Derived.Lib.RuneCountTail
import Derived.Lib.DecodeN
import Derived.Handy
import Derived.Outline
import Derived.IntWalk
import Derived.WalkLawsBesides
import Derived.WalkSpells
namespace Go.Proofs.YtmpdcljnghaekaaDoor
open Go.RowKit

theorem getB (s : ByteArray) (i : Nat) (h : i < s.size) : s.get! i = s[i] := by
  cases s with
  | mk d =>
    show d[i]! = _
    rw [getElem!_pos d i h]
    rfl

theorem width_at (s : ByteArray) (i : Nat) : (Utf8.decode s i).2 = (Lib.decodeN (s.size - i) (s.get! i).toNat (s.get! (i + 1)).toNat (s.get! (i + 2)).toNat (s.get! (i + 3)).toNat).2 := by rw [Lib.decode_at]

theorem ret_i64 {a b : Int} (h : a = b) : Ending.returned (.int .i64 a) = .returned (.int .i64 b) := by rw [h]

/-- What the law's own function answers, by its tests. -/
def seqN (n b0 b1 b2 b3 : Nat) : Nat :=
  if b0 < 128 then 1
  else if 194 ≤ b0 ∧ b0 ≤ 223 then (if 2 ≤ n ∧ 128 ≤ b1 ∧ b1 ≤ 191 then 2 else 1)
  else if 224 ≤ b0 ∧ b0 ≤ 239 then (if 3 ≤ n ∧ 128 ≤ b1 ∧ (b0 = 224 → 160 ≤ b1) ∧ b1 ≤ 191 ∧ (b0 = 237 → b1 ≤ 159) ∧ 128 ≤ b2 ∧ b2 ≤ 191 then 3 else 1)
  else if 240 ≤ b0 ∧ b0 ≤ 244 then (if 4 ≤ n ∧ 128 ≤ b1 ∧ (b0 = 240 → 144 ≤ b1) ∧ b1 ≤ 191 ∧ (b0 = 244 → b1 ≤ 143) ∧ 128 ≤ b2 ∧ b2 ≤ 191 ∧ 128 ≤ b3 ∧ b3 ≤ 191 then 4 else 1)
  else 1

set_option maxRecDepth 100000 in
set_option maxHeartbeats 4000000 in
theorem seqN_eq (n b0 b1 b2 b3 : Nat) (h0 : b0 < 256) (h1 : b1 < 256) (h2 : b2 < 256) (h3 : b3 < 256) : (Lib.decodeN n b0 b1 b2 b3).2 = seqN n b0 b1 b2 b3 := by
  unfold Lib.decodeN seqN
  by_cases a1 : b0 < 128
  · simp [a1]
  by_cases a2 : b0 / 32 = 6
  · rw [if_neg a1, if_neg a1]
    (repeat' split) <;> first | rfl | (exfalso; omega)
  by_cases a3 : b0 / 16 = 14
  · rw [if_neg a1, if_neg a1]
    (repeat' split) <;> first | rfl | (exfalso; omega)
  by_cases a4 : b0 / 8 = 30
  · rw [if_neg a1, if_neg a1]
    (repeat' split) <;> first | rfl | (exfalso; omega)
  · rw [if_neg a1, if_neg a1]
    (repeat' split) <;> first | rfl | (exfalso; omega)

set_option maxRecDepth 100000 in
set_option maxHeartbeats 4000000 in
theorem seqLen_any (s : ByteArray) (i : Nat) (w : World) (h : i < s.size) (hs : s.size ≤ 4194304) :
    Calls Tryd.prog 37 #[.string s, .int .i64 i] w fun e w' => e = .returned (.int .i64 ((Utf8.decode s i).2 : Nat)) ∧ w = w' := by
  have W := hide (width_at s i)
  rw [seqN_eq _ _ _ _ _ (UInt8.toNat_lt _) (UInt8.toNat_lt _) (UInt8.toNat_lt _) (UInt8.toNat_lt _)] at W
  generalize hv : (Utf8.decode s i).2 = v at W ⊢
  clear hv
  have G0 := hide (getB s i h)
  have G1 : Hid (∀ hh : i + 1 < s.size, s.get! (i + 1) = s[i + 1]) := fun hh => getB s (i + 1) hh
  have G2 : Hid (∀ hh : i + 2 < s.size, s.get! (i + 2) = s[i + 2]) := fun hh => getB s (i + 2) hh
  have G3 : Hid (∀ hh : i + 3 < s.size, s.get! (i + 3) = s[i + 3]) := fun hh => getB s (i + 3) hh
  go_enter Tryd.func37, Tryd.ntmps37
  go_wp2_with (go_at_call 42; go_in)
  all_goals go_ret
  all_goals refine ⟨ret_i64 ?_, rfl⟩
  all_goals
    rw [W.out, G0.out]
    try rw [G1.out (by omega)]
    try rw [G2.out (by omega)]
    try rw [G3.out (by omega)]
    unfold seqN
    (try simp only [beq_iff_eq, beq_eq_false_iff_ne, ne_eq] at *)
    (repeat' split) <;> first | rfl | (exfalso; omega)

set_option maxHeartbeats 1000000 in
theorem zzCount_any (s : ByteArray) (w : World) (hs : s.size ≤ 4194304) :
    Calls Tryd.prog 29 #[.string s] w fun e w' => e = .returned (.int .i64 (Lib.runeCount s : Nat)) ∧ w = w' := by
  go_enter Tryd.func29, Tryd.ntmps29
  go_wp2
  go_loop [3, 4] (fun nv iv => ∃ n i : Nat, nv = .int .i64 n ∧ iv = .int .i64 i ∧ n ≤ i ∧ i ≤ s.size + 4 ∧ Hid (Lib.runeCount s = n + Lib.runeCountFrom s (s.size - i) i)) (fun _ iv => s.size - (intOf iv).toNat)
  case atStart => exact ⟨0, 0, rfl, rfl, Nat.le_refl _, by omega, by show Lib.runeCount s = _; simp [Lib.runeCount]⟩
  case round =>
    obtain ⟨n, i, rfl, rfl, hni, hi, HC⟩ := hrel
    by_cases hlt : i < s.size
    · have hp := Lib.decode_width_pos s i hlt
      have hq : (Utf8.decode s i).2 ≤ 4 := by
        rw [width_at, seqN_eq _ _ _ _ _ (UInt8.toNat_lt _) (UInt8.toNat_lt _) (UInt8.toNat_lt _) (UInt8.toNat_lt _)]
        unfold seqN
        (repeat' split) <;> omega
      have HN : Hid (Lib.runeCount s = (n + 1) + Lib.runeCountFrom s (s.size - (i + (Utf8.decode s i).2)) (i + (Utf8.decode s i).2)) := by
        show Lib.runeCount s = _
        rw [HC.out, show s.size - i = (s.size - i - 1) + 1 by omega, Lib.runeCountFrom, if_pos hlt, Lib.fuel_enough s (s.size - i - 1) (s.size - (i + (Utf8.decode s i).2)) _ (by omega) (by omega)]
        omega
      have SL := hide (seqLen_any s i w hlt hs)
      clear HC
      generalize (Utf8.decode s i).2 = v at hp hq HN SL
      go_wp2_with (go_at_call 37; refine SL.out.mono ?_; rintro e w' ⟨rfl, rfl⟩)
      go_round
      case rel => exact ⟨n + 1, i + v, by go_num, by go_num, by omega, by omega, HN⟩
      case measure => simp [intOf]; omega
    · go_wp2
      go_ret
      refine ⟨ret_i64 ?_, rfl⟩
      rw [HC.out, Lib.runeCountFrom_end s _ i hlt]
      omega
end Go.Proofs.YtmpdcljnghaekaaDoor
