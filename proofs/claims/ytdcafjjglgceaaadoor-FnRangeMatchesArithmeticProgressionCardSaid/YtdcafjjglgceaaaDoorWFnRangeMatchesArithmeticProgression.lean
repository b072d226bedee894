/- The law FnRangeMatchesArithmeticProgression walked: the call returns true and writes nothing that was there. Its conditions: none beyond the arguments' types. -/
import Derived.Test.YtdcafjjglgceaaaDoorProg
import Derived.Test.YtdcafjjglgceaaaDoorBase
import Derived.Test.YtdcafjjglgceaaaDoorRows
import Derived.Handy
import Derived.Outline
import Derived.WalkLawsBesides
import Derived.WalkSpells
import Derived.Deep.QuietTactic
import Derived.BigQuiet
import Derived.RegionTactic
import Derived.ChangeAlike
import Derived.Test.YtdcafjjglgceaaaDoorLaid
import Derived.Test.YtdcafjjglgceaaaDoorEarly
import Derived.MakeChecks
import Derived.Stop.LaidErr
import Derived.LaidEql
namespace Go.Proofs.YtdcafjjglgceaaaDoor.fnRangeMatchesArithmeticProgression
open Go.RowKit Go.Proofs.YtdcafjjglgceaaaDoor
theorem star : "*" ++ "errors.errorString" = "*errors.errorString" := by decide
theorem rowE (u : TypeId) (h : Tryd.prog.typeName? 3 u = some "*errors.errorString") : u = 48 :=
  typeName_ptr_named (nm := "errors.errorString") (by rw [star]; kernel_rfl) (by kernel_rfl) (by decide) u (by rw [star]; exact h)
theorem gE : Tryd.prog.globalNamed "github.com/d5/tengo/v2.ErrInvalidRangeStep" = some 0 := by kernel_rfl
theorem errCell {w : World} (hL : laidMetH Tryd.prog Rows.fnRangeMatchesArithmeticProgressionRow.laid w) : ∃ a, w.cell? ⟨0, 0, none⟩ = some (.iface 48 (.pointer (some a))) := by
  rw [MakeChecks.laidMetH_plain _ _ _ (by kernel_rfl)] at hL
  obtain ⟨a, s, hv, _⟩ := laid_sentinel (tp := 48) (te := 74) (ts := 9) (ti := 25) hL.tail gE (by kernel_rfl) Tryd.underlying25 rowE Tryd.underlying48 Tryd.underlying74 rfl rfl Tryd.underlying9 (by kernel_rfl) (by kernel_rfl)
  exact ⟨a, by rw [var_cell gE hv]; rfl⟩
theorem infoE : (Tryd.prog.info? 48).map (·.comparable) = some true := by kernel_rfl
theorem infoT : (Tryd.prog.info? 74).isSome = true := by kernel_rfl
theorem info_parts1 {x : Option TypeInfo} (h : x.map (·.comparable) = some true) : ∃ i, x = some i ∧ i.comparable = true := by
  cases x with
  | none => cases h
  | some i => exact ⟨i, rfl, by simpa using h⟩
attribute [local go_sem] taI
set_option maxRecDepth 100000 in
set_option linter.unusedVariables false in
set_option maxHeartbeats 4000000 in
theorem refused (s p t : Int) (w : World) (a : Addr) (ht : t ≤ 0) (hE : w.cell? ⟨0, 0, none⟩ = some (.iface 48 (.pointer (some a)))) (hE1 : 0 < w.heap.size) :
    Calls Tryd.prog 3 #[.int .i64 s, .int .i64 p, .int .i64 t, .bool true] w fun e w' => e = .returned (.bool true) ∧ Below w.heap.size w w' := by
  obtain ⟨i, hi, hcmp⟩ : ∃ i, Tryd.prog.info? 48 = some i ∧ i.comparable = true := info_parts1 infoE
  obtain ⟨i2, hi2⟩ : ∃ i, Tryd.prog.info? 74 = some i := Option.isSome_iff_exists.1 infoT
  have heq := fun w => run_eql_iface_ptr_same (P := Tryd.prog) w a Tryd.underlying25 Tryd.underlying48 hi hcmp hi2
  clear hi hcmp hi2
  go_enter Tryd.func3, Tryd.ntmps3
  go_wp2
  refine wp_loop_rounds 3 ?_
  rw [rounds_succ]
  go_wp2
  rw [rounds_succ]
  go_wp2
  rw [rounds_succ]
  go_wp2
  go_quiet (fail)
  go_wp2
  go_ret
  refine ⟨by simp, ?_⟩
  first | exact below_drewN (by go_grown) _ | go_grown
set_option maxRecDepth 100000 in
set_option linter.unusedVariables false in
set_option maxHeartbeats 4000000 in
theorem walk (a0 : Int) (a1 : Int) (a2 : Int) (a3 : Bool) (w : World) (w0 : (Lit.int .i64 a0).wf = true) (w1 : (Lit.int .i64 a1).wf = true) (w2 : (Lit.int .i64 a2).wf = true) (hL : laidMetH Tryd.prog Rows.fnRangeMatchesArithmeticProgressionRow.laid w) :
    Calls Tryd.prog 3 #[.int .i64 a0, .int .i64 a1, .int .i64 a2, .bool a3] w fun e w' => e = .returned (.bool true) ∧ Below w.heap.size w w' := by
  have hb0 := bounds_i64 w0
  have hb1 := bounds_i64 w1
  have hb2 := bounds_i64 w2
  cases a3 with
  | true =>
    by_cases ht : 0 < a2
    · clear hL
      by_cases hup : a0 ≤ a1
      · obtain ⟨d, hd⟩ : ∃ d : Nat, (d : Int) = a1 - a0 := ⟨(a1 - a0).toNat, by omega⟩
        have hdl : d ≤ 18446744073709551615 := by omega
        have hD : IntKind.u64.wrap (IntKind.u64.wrap a1 - IntKind.u64.wrap a0) = (d : Int) := by rw [hd]; exact dist_up hb0.1 hb0.2 hb1.1 hb1.2 hup
        obtain ⟨u, rfl⟩ : ∃ u : Nat, a2 = (u : Int) := ⟨a2.toNat, by omega⟩
        have hF := up_facts (s := a0) (p := a1) (t := (u : Int)) (d := d) (u := u) ht hd rfl
        have HF := hide hF
        clear hF
        by_cases hmod : d % u = 0
        · have hc := count_b hdl hmod
          by_cases hn : ceilD d u ≤ 65536
          · by_cases hov : 9223372036854775807 - (u : Int) < a1
            · exact over_up_3b a0 a1 (u : Int) _ _ 0 w hb0.1 hb0.2 hb1.1 hb1.2 ht hb2.2 hup hn hov (by rw [← hD]; congr 1; rw [u64_small (x := a1) (by omega) (by omega)]) hD hc.1 hc.2
            · have HB : ∀ W, Calls Tryd.prog 9 #[.int .i64 a0, .int .i64 a1, .int .i64 (u : Int)] W (RangeArr (ceilD d u) (prog a0 (u : Int) (ceilD d u)) W) := fun W => build_up a0 a1 (u : Int) _ W hb0.1 (by omega) ht (by omega) hn HF.out.1 HF.out.2
              exact core_up_3b a0 a1 (u : Int) _ _ 0 w hb0.1 hb0.2 hb1.1 hb1.2 ht hb2.2 hup (by omega) hn HB hD hc.1 hc.2 (fun k hk => by
                have h1 := HF.out.1 k hk
                have h2 := mul_mono (t := (u : Int)) ht (Nat.zero_le k)
                try simp only [Int.mul_neg] at *
                omega)
          · exact big_up_3b a0 a1 (u : Int) _ _ 0 w hb0.1 hb0.2 hb1.1 hb1.2 ht hb2.2 hup (by omega) hD hc.1 hc.2
        · have hc := count_a hdl hmod
          by_cases hn : ceilD d u ≤ 65536
          · by_cases hov : 9223372036854775807 - (u : Int) < a1
            · exact over_up_3a a0 a1 (u : Int) _ _ ((d / u : Nat) : Int) w hb0.1 hb0.2 hb1.1 hb1.2 ht hb2.2 hup hn hov (by rw [← hD]; congr 1; rw [u64_small (x := a1) (by omega) (by omega)]) hD hc.1 hc.2.1 hc.2.2
            · have HB : ∀ W, Calls Tryd.prog 9 #[.int .i64 a0, .int .i64 a1, .int .i64 (u : Int)] W (RangeArr (ceilD d u) (prog a0 (u : Int) (ceilD d u)) W) := fun W => build_up a0 a1 (u : Int) _ W hb0.1 (by omega) ht (by omega) hn HF.out.1 HF.out.2
              exact core_up_3a a0 a1 (u : Int) _ _ ((d / u : Nat) : Int) w hb0.1 hb0.2 hb1.1 hb1.2 ht hb2.2 hup (by omega) hn HB hD hc.1 hc.2.1 hc.2.2 (fun k hk => by
                have h1 := HF.out.1 k hk
                have h2 := mul_mono (t := (u : Int)) ht (Nat.zero_le k)
                try simp only [Int.mul_neg] at *
                omega)
          · exact big_up_3a a0 a1 (u : Int) _ _ ((d / u : Nat) : Int) w hb0.1 hb0.2 hb1.1 hb1.2 ht hb2.2 hup (by omega) hD hc.1 hc.2.1 hc.2.2
      · have hup : a1 < a0 := by omega
        obtain ⟨d, hd⟩ : ∃ d : Nat, (d : Int) = a0 - a1 := ⟨(a0 - a1).toNat, by omega⟩
        have hdl : d ≤ 18446744073709551615 := by omega
        have hD : IntKind.u64.wrap (IntKind.u64.wrap a0 - IntKind.u64.wrap a1) = (d : Int) := by rw [hd]; exact dist_up hb1.1 hb1.2 hb0.1 hb0.2 (by omega)
        obtain ⟨u, rfl⟩ : ∃ u : Nat, a2 = (u : Int) := ⟨a2.toNat, by omega⟩
        have hF := down_facts (s := a0) (p := a1) (t := (u : Int)) (d := d) (u := u) ht hd rfl
        have HF := hide hF
        clear hF
        by_cases hmod : d % u = 0
        · have hc := count_b hdl hmod
          by_cases hn : ceilD d u ≤ 65536
          · by_cases hov : a1 < -9223372036854775808 + (u : Int)
            · exact over_dn_3b a0 a1 (u : Int) _ _ 0 w hb0.1 hb0.2 hb1.1 hb1.2 ht hb2.2 hup hn hov hD hc.1 hc.2
            · have HB : ∀ W, Calls Tryd.prog 9 #[.int .i64 a0, .int .i64 a1, .int .i64 (u : Int)] W (RangeArr (ceilD d u) (prog a0 (-(u : Int)) (ceilD d u)) W) := fun W => build_down a0 a1 (u : Int) _ W hb0.2 (by omega) ht (by omega) hn HF.out.1 HF.out.2
              exact core_dn_3b a0 a1 (u : Int) _ _ 0 w hb0.1 hb0.2 hb1.1 hb1.2 ht hb2.2 hup (by omega) hn HB hD hc.1 hc.2 (fun k hk => by
                have h1 := HF.out.1 k hk
                have h2 := mul_mono (t := (u : Int)) ht (Nat.zero_le k)
                try simp only [Int.mul_neg] at *
                omega)
          · exact big_dn_3b a0 a1 (u : Int) _ _ 0 w hb0.1 hb0.2 hb1.1 hb1.2 ht hb2.2 hup (by omega) hD hc.1 hc.2
        · have hc := count_a hdl hmod
          by_cases hn : ceilD d u ≤ 65536
          · by_cases hov : a1 < -9223372036854775808 + (u : Int)
            · exact over_dn_3a a0 a1 (u : Int) _ _ ((d / u : Nat) : Int) w hb0.1 hb0.2 hb1.1 hb1.2 ht hb2.2 hup hn hov hD hc.1 hc.2.1 hc.2.2
            · have HB : ∀ W, Calls Tryd.prog 9 #[.int .i64 a0, .int .i64 a1, .int .i64 (u : Int)] W (RangeArr (ceilD d u) (prog a0 (-(u : Int)) (ceilD d u)) W) := fun W => build_down a0 a1 (u : Int) _ W hb0.2 (by omega) ht (by omega) hn HF.out.1 HF.out.2
              exact core_dn_3a a0 a1 (u : Int) _ _ ((d / u : Nat) : Int) w hb0.1 hb0.2 hb1.1 hb1.2 ht hb2.2 hup (by omega) hn HB hD hc.1 hc.2.1 hc.2.2 (fun k hk => by
                have h1 := HF.out.1 k hk
                have h2 := mul_mono (t := (u : Int)) ht (Nat.zero_le k)
                try simp only [Int.mul_neg] at *
                omega)
          · exact big_dn_3a a0 a1 (u : Int) _ _ ((d / u : Nat) : Int) w hb0.1 hb0.2 hb1.1 hb1.2 ht hb2.2 hup (by omega) hD hc.1 hc.2.1 hc.2.2
    · obtain ⟨a, hE⟩ := errCell hL
      exact refused a0 a1 a2 w a (by omega) hE (World.block_lt_of_cell? w _ hE)
  | false =>
    clear hL
    by_cases hup : a0 ≤ a1
    · obtain ⟨d, hd⟩ : ∃ d : Nat, (d : Int) = a1 - a0 := ⟨(a1 - a0).toNat, by omega⟩
      have hdl : d ≤ 18446744073709551615 := by omega
      have hD : IntKind.u64.wrap (IntKind.u64.wrap a1 - IntKind.u64.wrap a0) = (d : Int) := by rw [hd]; exact dist_up hb0.1 hb0.2 hb1.1 hb1.2 hup
      have hF := up_facts (s := a0) (p := a1) (t := 1) (d := d) (u := 1) (by omega) hd rfl
      have HF := hide hF
      clear hF
      by_cases hn : ceilD d 1 ≤ 65536
      · by_cases hov : 9223372036854775807 - 1 < a1
        · exact over_up_2b a0 a1 a2 _ _ 0 w hb0.1 hb0.2 hb1.1 hb1.2 hup hn hov (by rw [← hD]; congr 1; rw [u64_small (x := a1) (by omega) (by omega)]) hD (count_1 hdl)
        · have HB : ∀ W, Calls Tryd.prog 9 #[.int .i64 a0, .int .i64 a1, .int .i64 1] W (RangeArr (ceilD d 1) (prog a0 1 (ceilD d 1)) W) := fun W => build_up a0 a1 1 _ W hb0.1 (by omega) (by omega) (by omega) hn HF.out.1 HF.out.2
          exact core_up_2b a0 a1 a2 _ _ 0 w hb0.1 hb0.2 hb1.1 hb1.2 hup (by omega) hn HB hD (count_1 hdl) (fun k hk => by
            have h1 := HF.out.1 k hk
            have h2 := mul_mono (t := 1) (by omega) (Nat.zero_le k)
            try simp only [Int.mul_neg] at *
            omega)
      · exact big_up_2b a0 a1 a2 _ _ 0 w hb0.1 hb0.2 hb1.1 hb1.2 hup (by omega) hD (count_1 hdl)
    · have hup : a1 < a0 := by omega
      obtain ⟨d, hd⟩ : ∃ d : Nat, (d : Int) = a0 - a1 := ⟨(a0 - a1).toNat, by omega⟩
      have hdl : d ≤ 18446744073709551615 := by omega
      have hD : IntKind.u64.wrap (IntKind.u64.wrap a0 - IntKind.u64.wrap a1) = (d : Int) := by rw [hd]; exact dist_up hb1.1 hb1.2 hb0.1 hb0.2 (by omega)
      have hF := down_facts (s := a0) (p := a1) (t := 1) (d := d) (u := 1) (by omega) hd rfl
      have HF := hide hF
      clear hF
      by_cases hn : ceilD d 1 ≤ 65536
      · by_cases hov : a1 < -9223372036854775808 + 1
        · exact over_dn_2b a0 a1 a2 _ _ 0 w hb0.1 hb0.2 hb1.1 hb1.2 hup hn hov hD (count_1 hdl)
        · have HB : ∀ W, Calls Tryd.prog 9 #[.int .i64 a0, .int .i64 a1, .int .i64 1] W (RangeArr (ceilD d 1) (prog a0 (-1) (ceilD d 1)) W) := fun W => build_down a0 a1 1 _ W hb0.2 (by omega) (by omega) (by omega) hn HF.out.1 HF.out.2
          exact core_dn_2b a0 a1 a2 _ _ 0 w hb0.1 hb0.2 hb1.1 hb1.2 hup (by omega) hn HB hD (count_1 hdl) (fun k hk => by
            have h1 := HF.out.1 k hk
            have h2 := mul_mono (t := 1) (by omega) (Nat.zero_le k)
            try simp only [Int.mul_neg] at *
            omega)
      · exact big_dn_2b a0 a1 a2 _ _ 0 w hb0.1 hb0.2 hb1.1 hb1.2 hup (by omega) hD (count_1 hdl)
end Go.Proofs.YtdcafjjglgceaaaDoor.fnRangeMatchesArithmeticProgression
