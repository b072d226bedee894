/- The law FnIntStringParsesBack walked: the call returns true and writes nothing that was there. Its conditions: none beyond the arguments' types. -/
import Derived.Test.YtjifamcbimbgmaaDoorProg
import Derived.Test.YtjifamcbimbgmaaDoorBase
import Derived.Test.YtjifamcbimbgmaaDoorRows
import Derived.Handy
import Derived.Outline
import Derived.WalkLawsBesides
import Derived.WalkSpells
import Derived.Deep.QuietTactic
import Derived.BigQuiet
import Derived.RegionTactic
import Derived.ChangeAlike
import Derived.Test.YtjifamcbimbgmaaDoorLaid
import Derived.Test.YtjifamcbimbgmaaDoorDec
import Derived.Test.YtjifamcbimbgmaaDoorShelf
import Derived.MakeChecks
import Derived.Lib.AppendIntMem
namespace Go.Proofs.YtjifamcbimbgmaaDoor.fnIntStringParsesBack
open Go.RowKit Go.Proofs.YtjifamcbimbgmaaDoor
/-- The table of the powers of ten, as the row lists it. -/
theorem tab {w : World} (hL : laidMetH Tryd.prog Rows.fnIntStringParsesBackRow.laid w) : Lib.TabIs Tryd.prog w "internal/strconv.uint64pow10" .u64 Lib.pow10Tab := by
  rw [MakeChecks.laidMetH_plain _ _ _ (by kernel_rfl)] at hL
  obtain ⟨ps, hl, _⟩ := hL
  obtain ⟨g', t', cs, fuel, p, hg, ht, hv, hd⟩ := laidVars_mem _ ps hl (n := "internal/strconv.uint64pow10") (d := Lib.tabData .u64 Lib.pow10Tab) (by
    have e : (Lib.tabData .u64 Lib.pow10Tab : DataW Unit) = Rows.laid_internal_strconv_uint64pow10 := rfl
    rw [e]
    simp [Rows.fnIntStringParsesBackRow])
  obtain rfl : 0 = g' := Option.some.inj ((show Tryd.prog.globalNamed "internal/strconv.uint64pow10" = some 0 by kernel_rfl).symm.trans hg)
  obtain rfl : 45 = t' := Option.some.inj ((show (Tryd.prog.globals[0]?).map (·.type) = some 45 by kernel_rfl).symm.trans ht)
  unfold Lib.TabIs
  rw [hv, ← Lib.cells_of_tab Tryd.underlying45 Tryd.underlying30 (by kernel_rfl) (by kernel_rfl) hd]
theorem tabOn {w w' : World} (h : Lib.TabIs Tryd.prog w "internal/strconv.uint64pow10" .u64 Lib.pow10Tab) (hb : Below w.heap.size w w') : Lib.TabIs Tryd.prog w' "internal/strconv.uint64pow10" .u64 Lib.pow10Tab := Lib.tabBelow_of_tabIs h w' hb
theorem nDigits_le : ∀ (k u : Nat), u < 10 ^ (k + 1) → Lib.nDigits u ≤ k + 1
  | 0, u, h => by rw [Lib.nDigits_small (by simpa using h)]; omega
  | k + 1, u, h => by
    by_cases h10 : u < 10
    · rw [Lib.nDigits_small h10]; omega
    · rw [Lib.nDigits_big h10]
      have := nDigits_le k (u / 10) (by rw [Nat.pow_succ] at h; omega)
      omega
theorem pow_le (u : Nat) (h : 0 < u) : 10 ^ (Lib.nDigits u - 1) ≤ u := by
  induction u using Nat.strongRecOn with
  | _ u ih =>
    by_cases h10 : u < 10
    · rw [Lib.nDigits_small h10]; simp; omega
    · rw [Lib.nDigits_big h10]
      have h1 := ih (u / 10) (by omega) (by omega)
      have h2 := Lib.nDigits_pos (u / 10)
      rw [show Lib.nDigits (u / 10) + 1 - 1 = (Lib.nDigits (u / 10) - 1) + 1 by omega, Nat.pow_succ]
      omega
/-- What the numeral of m is, place for place. -/
structure Digs (m n : Nat) (s : ByteArray) (o : Nat) : Prop where
  pos : 1 ≤ n
  le : n ≤ 19
  size : s.size = o + n
  at_ : ∀ k, k < n → ∃ h : o + k < s.size, (s[o + k]'h).toNat = 48 + m / 10 ^ (n - 1 - k) % 10
  whole : m / 10 ^ n = 0
  first : 0 < m / 10 ^ (n - 1) % 10
theorem digs {m : Nat} (h0 : 0 < m) (hm : m ≤ 9223372036854775808) (pre : List UInt8) : Digs m (Lib.nDigits m) ⟨(pre ++ Lib.decDigits m).toArray⟩ pre.length where
  pos := Lib.nDigits_pos m
  le := nDigits_le 18 m (by omega)
  size := by
    show (pre ++ Lib.decDigits m).toArray.size = _
    simp [Lib.decDigits_length]
  at_ k hk := by
    have hs : pre.length + k < (⟨(pre ++ Lib.decDigits m).toArray⟩ : ByteArray).size := by
      show _ < (pre ++ Lib.decDigits m).toArray.size
      simp [Lib.decDigits_length]; omega
    refine ⟨hs, ?_⟩
    show ((pre ++ Lib.decDigits m).toArray[pre.length + k]'_).toNat = _
    have e : (pre ++ Lib.decDigits m)[pre.length + k]? = some (Lib.dg m (Lib.nDigits m - 1 - k)) := by
      rw [List.getElem?_append_right (by omega), Nat.add_sub_cancel_left, Lib.decDigits_eq, List.getElem?_map, List.getElem?_range hk]
      rfl
    rw [List.getElem_toArray, (List.getElem?_eq_some_iff.1 e).2]
    unfold Lib.dg
    exact dig_nat _
  whole := Nat.div_eq_of_lt (Lib.lt_pow_nDigits m)
  first := by
    have h1 := Lib.lt_pow_nDigits m
    have h2 := pow_le m h0
    have h3 := Lib.nDigits_pos m
    rw [show Lib.nDigits m = (Lib.nDigits m - 1) + 1 by omega, Nat.pow_succ] at h1
    rw [Nat.mod_eq_of_lt (Nat.div_lt_of_lt_mul h1)]
    exact Nat.div_pos h2 (Nat.pow_pos (by omega))
theorem step_div (m n k : Nat) (hk : k < n) : m / 10 ^ (n - (k + 1)) = m / 10 ^ (n - k) * 10 + m / 10 ^ (n - 1 - k) % 10 := by
  have e : n - k = (n - 1 - k) + 1 := by omega
  rw [show n - (k + 1) = n - 1 - k by omega, e, Nat.pow_succ, ← Nat.div_div_eq_div_mul]
  omega
/-- The text of the value, at the call of the library. -/
theorem fmt_any (a0 : Int) (h0 : -9223372036854775808 ≤ a0) (h1 : a0 ≤ 9223372036854775807) {w W : World} (s : ByteArray) (hs : s = ⟨(Lib.itoa a0).toArray⟩) (ht : Lib.TabIs Tryd.prog w "internal/strconv.uint64pow10" .u64 Lib.pow10Tab) (hb : Below w.heap.size w W) :
    Calls Tryd.prog 8 #[.int .i64 a0, .int .i64 10] W fun e w' => e = .returned (.string s) ∧ Below w.heap.size w w' ∧ Below W.heap.size W w' := by
  subst hs
  refine (Tryd.strconv_FormatInt_10 a0 h0 h1 W (tabOn ht hb)).mono ?_
  rintro e w1 ⟨rfl, k, os, rfl⟩
  exact ⟨rfl, hb.trans (Lib.below_grow w.heap.size W hb.size k os), Lib.below_grow _ W (Nat.le_refl _) k os⟩
set_option linter.unusedVariables false in
set_option maxHeartbeats 1000000 in
theorem walk (a0 : Int) (w : World) (w0 : (Lit.int .i64 a0).wf = true) (hL : laidMetH Tryd.prog Rows.fnIntStringParsesBackRow.laid w) :
    Calls Tryd.prog 4 #[.int .i64 a0] w fun e w' => e = .returned (.bool true) ∧ Below w.heap.size w w' := by
  have hb := bounds_i64 w0
  have HT := hide (tab hL)
  clear hL w0
  obtain ⟨s, hs⟩ : ∃ s : ByteArray, s = ⟨(Lib.itoa a0).toArray⟩ := ⟨_, rfl⟩
  have HS := hide hs
  clear hs
  by_cases hz : a0 = 0
  · subst hz
    have e48 : s = ⟨#[48]⟩ := by rw [HS.out]; simp [Lib.itoa, Lib.decDigits]
    subst e48
    go_enter Tryd.func4, Tryd.ntmps4
    go_wp2_with (go_at_call 5; go_in)
    refine (fmt_any _ hb.1 hb.2 _ HS.out HT.out ((Below.refl _ _).alloc (Nat.le_refl _) _)).mono ?_
    rintro e w1 ⟨rfl, hb1, hb2⟩
    have B1 := hide hb1
    have hcell := (hb2.cell (p := ⟨w.heap.size, 0, none⟩) (by simp)).trans (World.cell?_alloc_at _ _ _ _ rfl)
    simp only [List.getElem?_toArray, List.getElem?_cons_zero] at hcell
    clear hb1 hb2
    go_wp2_with fail
    go_loop [6, 7] (fun ix u => ∃ k : Nat, k ≤ 1 ∧ ix = .int .i64 (k : Int) ∧ u = .int .u64 0) (fun ix _ => 1 - (intOf ix).toNat)
    case atStart => exact ⟨0, Nat.zero_le _, rfl, rfl⟩
    case round =>
      obtain ⟨k, hk, rfl, rfl⟩ := hrel
      by_cases hlt : k < 1
      · obtain rfl : k = 0 := by omega
        go_wp2
        go_round
        case rel => exact ⟨1, by omega, rfl, rfl⟩
        case measure => simp [intOf]
      · obtain rfl : k = 1 := by omega
        go_wp2_with (first | (go_at_call 7; go_in) | (go_at_call 5; go_in))
        refine (fmt_any _ hb.1 hb.2 _ HS.out HT.out (B1.out.alloc B1.out.size _)).mono ?_
        rintro e w2 ⟨rfl, hb3, _⟩
        have B3 := hide hb3
        clear hb3
        go_wp2
        go_ret
        exact ⟨by simp, B3.out⟩
  by_cases hneg : a0 < 0
  ·
    obtain ⟨m, hm⟩ : ∃ m : Nat, m = a0.natAbs := ⟨_, rfl⟩
    have hma : a0 = -(m : Int) := by omega
    have hm0 : 0 < m := by omega
    have hm1 : m ≤ 9223372036854775808 := by omega
    have HD : Hid (Digs m (Lib.nDigits m) s 1) := by
      have e : s = ⟨([45] ++ Lib.decDigits m).toArray⟩ := by
        rw [HS.out, hm]; unfold Lib.itoa; rw [if_pos hneg]; rfl
      show Digs _ _ _ _
      rw [e]
      exact digs hm0 (by omega) [45]
    obtain ⟨n, hn⟩ : ∃ n : Nat, n = Lib.nDigits m := ⟨_, rfl⟩
    rw [← hn] at HD
    clear hn hm
    subst hma
    have n0 := HD.out.pos
    have n1 := HD.out.le
    have hsz := HD.out.size
    have hsI : (s.size : Int) = 1 + (n : Int) := by omega
    obtain ⟨hf, hfirst⟩ := HD.out.at_ 0 (by omega)
    have hfp := HD.out.first
    rw [Nat.sub_zero] at hfirst
    obtain ⟨d0, hd0⟩ : ∃ d0 : Nat, d0 = m / 10 ^ (n - 1) % 10 := ⟨_, rfl⟩
    rw [← hd0] at hfirst hfp
    have hd9 : d0 ≤ 9 := by omega
    have HF := hide hfirst
    have hm45 : Hid (∃ h : 0 < s.size, (s[0]'h).toNat = 45) := by
      refine ⟨by omega, ?_⟩
      have e : s = ⟨(45 :: Lib.decDigits m).toArray⟩ := by
        rw [HS.out]; unfold Lib.itoa; rw [if_pos hneg]; simp
      subst e
      rfl
    obtain ⟨g0, g1⟩ := hm45.out
    have hs1 : (s[1]'hf).toNat = 48 + d0 := HF.out
    clear hd0 hfirst
    go_enter Tryd.func4, Tryd.ntmps4
    go_wp2_with (go_at_call 5; go_in)
    refine (fmt_any _ hb.1 hb.2 s HS.out HT.out ((Below.refl _ _).alloc (Nat.le_refl _) _)).mono ?_
    rintro e w1 ⟨rfl, hb1, hb2⟩
    have B1 := hide hb1
    have hcell := (hb2.cell (p := ⟨w.heap.size, 0, none⟩) (by simp)).trans (World.cell?_alloc_at _ _ _ _ rfl)
    simp only [List.getElem?_toArray, List.getElem?_cons_zero] at hcell
    clear hb1 hb2
    have e0 : ((1 + (n : Int) : Int) == 0) = false := by simp; omega
    have e1 : decide ((20 : Int) < 1 + (n : Int)) = false := by simp; omega
    go_wp2_with fail
    clear e0 e1
    go_loop [6, 7] (fun ix u => ∃ k uu : Nat, k ≤ n ∧ ix = .int .i64 ((1 + k : Nat) : Int) ∧ u = .int .u64 uu ∧ Hid (uu = m / 10 ^ (n - k))) (fun ix _ => 1 + n - (intOf ix).toNat)
    case atStart => exact ⟨0, 0, Nat.zero_le _, rfl, rfl, HD.out.whole.symm⟩
    case round =>
      obtain ⟨k, uu, hk, rfl, rfl, HU⟩ := hrel
      by_cases hlt : k < n
      · obtain ⟨hks, hkd⟩ := HD.out.at_ k hlt
        have HST := hide (step_div m n k hlt)
        obtain ⟨d, hd⟩ : ∃ d : Nat, d = m / 10 ^ (n - 1 - k) % 10 := ⟨_, rfl⟩
        have HDD := hide hd
        have hd9 : d ≤ 9 := by omega
        rw [← hd] at hkd
        clear hd
        have huu : uu ≤ 922337203685477580 := by
          rw [HU.out]
          have h1 : m / 10 ^ (n - k) ≤ m / 10 := Nat.div_le_div_left (by have := Nat.pow_le_pow_right (show 0 < 10 by omega) (show 1 ≤ n - k by omega); simpa using this) (by omega)
          omega
        go_wp2
        go_round
        case rel => exact ⟨k + 1, uu * 10 + d, by omega, congrArg (Value.int .i64) (by omega), congrArg (Value.int .u64) (by omega), by
          show _ = _
          rw [HST.out, ← HDD.out, ← HU.out]⟩
        case measure => simp [intOf]; omega
      · obtain rfl : k = n := by omega
        obtain rfl : uu = m := by rw [HU.out]; simp
        have f0 : ((uu : Int) == 0) = false := by simp; omega
        have f1 : decide ((9223372036854775808 : Int) < uu) = false := by simp; omega
        go_wp2_with (first | (go_at_call 7; go_in) | (go_at_call 5; go_in))
        refine (fmt_any _ hb.1 hb.2 _ HS.out HT.out (B1.out.alloc B1.out.size _)).mono ?_
        rintro e w2 ⟨rfl, hb3, _⟩
        have B3 := hide hb3
        clear hb3
        go_wp2
        go_ret
        exact ⟨by simp, B3.out⟩
  ·
    obtain ⟨m, hm⟩ : ∃ m : Nat, m = a0.toNat := ⟨_, rfl⟩
    have hma : a0 = (m : Int) := by omega
    have hm0 : 0 < m := by omega
    have hm1 : m ≤ 9223372036854775807 := by omega
    have HD : Hid (Digs m (Lib.nDigits m) s 0) := by
      have e : s = ⟨([] ++ Lib.decDigits m).toArray⟩ := by
        rw [HS.out, hm]; unfold Lib.itoa; rw [if_neg hneg]; rfl
      show Digs _ _ _ _
      rw [e]
      exact digs hm0 (by omega) []
    obtain ⟨n, hn⟩ : ∃ n : Nat, n = Lib.nDigits m := ⟨_, rfl⟩
    rw [← hn] at HD
    clear hn hm
    subst hma
    have n0 := HD.out.pos
    have n1 := HD.out.le
    have hsz := HD.out.size
    have hsI : (s.size : Int) = 0 + (n : Int) := by omega
    obtain ⟨hf, hfirst⟩ := HD.out.at_ 0 (by omega)
    have hfp := HD.out.first
    rw [Nat.sub_zero] at hfirst
    obtain ⟨d0, hd0⟩ : ∃ d0 : Nat, d0 = m / 10 ^ (n - 1) % 10 := ⟨_, rfl⟩
    rw [← hd0] at hfirst hfp
    have hd9 : d0 ≤ 9 := by omega
    have HF := hide hfirst
    have hs1 : (s[0]'hf).toNat = 48 + d0 := HF.out
    clear hd0 hfirst
    go_enter Tryd.func4, Tryd.ntmps4
    go_wp2_with (go_at_call 5; go_in)
    refine (fmt_any _ hb.1 hb.2 s HS.out HT.out ((Below.refl _ _).alloc (Nat.le_refl _) _)).mono ?_
    rintro e w1 ⟨rfl, hb1, hb2⟩
    have B1 := hide hb1
    have hcell := (hb2.cell (p := ⟨w.heap.size, 0, none⟩) (by simp)).trans (World.cell?_alloc_at _ _ _ _ rfl)
    simp only [List.getElem?_toArray, List.getElem?_cons_zero] at hcell
    clear hb1 hb2
    have e0 : (((n : Int) : Int) == 0) = false := by simp; omega
    have e1 : decide ((20 : Int) < (n : Int)) = false := by simp; omega
    go_wp2_with fail
    clear e0 e1
    go_loop [6, 7] (fun ix u => ∃ k uu : Nat, k ≤ n ∧ ix = .int .i64 ((k : Nat) : Int) ∧ u = .int .u64 uu ∧ Hid (uu = m / 10 ^ (n - k))) (fun ix _ => 1 + n - (intOf ix).toNat)
    case atStart => exact ⟨0, 0, Nat.zero_le _, rfl, rfl, HD.out.whole.symm⟩
    case round =>
      obtain ⟨k, uu, hk, rfl, rfl, HU⟩ := hrel
      by_cases hlt : k < n
      · obtain ⟨hks, hkd⟩ := HD.out.at_ k hlt
        have HST := hide (step_div m n k hlt)
        obtain ⟨d, hd⟩ : ∃ d : Nat, d = m / 10 ^ (n - 1 - k) % 10 := ⟨_, rfl⟩
        have HDD := hide hd
        have hd9 : d ≤ 9 := by omega
        rw [← hd] at hkd
        clear hd
        rw [Nat.zero_add] at hks
        simp only [Nat.zero_add] at hkd
        have huu : uu ≤ 922337203685477580 := by
          rw [HU.out]
          have h1 : m / 10 ^ (n - k) ≤ m / 10 := Nat.div_le_div_left (by have := Nat.pow_le_pow_right (show 0 < 10 by omega) (show 1 ≤ n - k by omega); simpa using this) (by omega)
          omega
        go_wp2
        go_round
        case rel => exact ⟨k + 1, uu * 10 + d, by omega, congrArg (Value.int .i64) (by omega), congrArg (Value.int .u64) (by omega), by
          show _ = _
          rw [HST.out, ← HDD.out, ← HU.out]⟩
        case measure => simp [intOf]; omega
      · obtain rfl : k = n := by omega
        obtain rfl : uu = m := by rw [HU.out]; simp
        have f1 : decide ((9223372036854775807 : Int) < uu) = false := by simp; omega
        go_wp2_with (first | (go_at_call 7; go_in) | (go_at_call 5; go_in))
        refine (fmt_any _ hb.1 hb.2 _ HS.out HT.out (B1.out.alloc B1.out.size _)).mono ?_
        rintro e w2 ⟨rfl, hb3, _⟩
        have B3 := hide hb3
        clear hb3
        go_wp2
        go_ret
        exact ⟨by simp, B3.out⟩
end Go.Proofs.YtjifamcbimbgmaaDoor.fnIntStringParsesBack
