/- The law FnSpliceMatchesModel walked: the call returns true and writes nothing that was there. Its conditions: none beyond the arguments' types. -/
import Derived.Test.YtdfjbegifibldaaDoorProg
import Derived.Test.YtdfjbegifibldaaDoorBase
import Derived.Test.YtdfjbegifibldaaDoorRows
import Derived.Handy
import Derived.Outline
import Derived.WalkLawsBesides
import Derived.WalkSpells
import Derived.Deep.QuietTactic
import Derived.BigQuiet
import Derived.RegionTactic
import Derived.ChangeAlike
import Derived.Test.YtdfjbegifibldaaDoorLaid
import Derived.Test.YtdfjbegifibldaaDoorShim4
import Derived.MakeChecks
import Derived.Stop.LaidErr
import Derived.IntWalk
namespace Go.Proofs.YtdfjbegifibldaaDoor.fnSpliceMatchesModel
open Go.RowKit Go.Proofs.YtdfjbegifibldaaDoor
theorem star : "*" ++ "errors.errorString" = "*errors.errorString" := by decide
theorem rowE (u : TypeId) (h : Tryd.prog.typeName? 3 u = some "*errors.errorString") : u = 52 :=
  typeName_ptr_named (nm := "errors.errorString") (by rw [star]; kernel_rfl) (by kernel_rfl) (by decide) u (by rw [star]; exact h)
theorem gE : Tryd.prog.globalNamed "github.com/d5/tengo/v2.ErrIndexOutOfBounds" = some 1 := by kernel_rfl
theorem errCell {w : World} (hL : laidMetH Tryd.prog Rows.fnSpliceMatchesModelRow.laid w) : ∃ te pe, w.cell? ⟨1, 0, none⟩ = some (.iface te pe) := by
  rw [MakeChecks.laidMetH_plain _ _ _ (by kernel_rfl)] at hL
  obtain ⟨a, s, hv, _⟩ := laid_sentinel (tp := 52) (te := 78) (ts := 9) (ti := 43) hL gE (by kernel_rfl) Tryd.underlying43 rowE Tryd.underlying52 Tryd.underlying78 rfl rfl Tryd.underlying9 (by kernel_rfl) (by kernel_rfl)
  exact ⟨_, _, by rw [var_cell gE hv]; rfl⟩
set_option linter.unusedVariables false in
set_option maxRecDepth 100000 in
set_option maxHeartbeats 8000000 in
theorem walk (a0 : Option Addr) (len0 cap0 : Nat) (z0 : List Int) (a1 : Int) (a2 : Int) (a3 : Option Addr) (len3 cap3 : Nat) (z3 : List Int) (w : World) (w0 : SlIn w w.heap.size a0 len0 cap0 (z0.map (Value.int .i64))) (wf0 : ∀ n ∈ z0, (Lit.int .i64 n).wf = true) (w1 : (Lit.int .i64 a1).wf = true) (w2 : (Lit.int .i64 a2).wf = true) (w3 : SlIn w w.heap.size a3 len3 cap3 (z3.map (Value.int .i64))) (wf3 : ∀ n ∈ z3, (Lit.int .i64 n).wf = true) (hL : laidMetH Tryd.prog Rows.fnSpliceMatchesModelRow.laid w) :
    Calls Tryd.prog 3 #[.slice a0 len0 cap0, .int .i64 a1, .int .i64 a2, .slice a3 len3 cap3] w fun e w' => e = .returned (.bool true) ∧ Below w.heap.size w w' := by
  have t0 := w0.top
  have l0 := w0.le
  have t3 := w3.top
  have l3 := w3.le
  unfold maxLen at t0 t3
  have hba1 := bounds_i64 w1
  have hba2 := bounds_i64 w2
  have S0 := hide w0
  have S3 := hide w3
  obtain ⟨te, pe, hE⟩ := errCell hL
  have HE := hide hE
  have HE1 : Hid (1 < w.heap.size) := World.block_lt_of_cell? w _ hE
  clear w0 w1 w2 w3 wf0 wf3 hE hL
  by_cases h : len0 ≤ 65536
  · by_cases h3 : len3 ≤ 65536
    · by_cases h2 : a2 ≤ 4611686018427387904
      · go_enter Tryd.func3, Tryd.ntmps3
        go_wp2_with (go_at_call 5; go_in)
        refine (cloneI_any a0 len0 cap0 z0 w S0.out (by omega)).mono ?_
        rintro e w1 ⟨A1, c1, rfl, ho1, hb1⟩
        have O1 := hide (SlIn.of_own ho1)
        have B1 := hide hb1
        clear ho1 hb1
        go_wp2_with fail
        refine (cloneI_any a3 len3 cap3 z3 w1 (sl_of B1.out S3.out) (by omega)).mono ?_
        rintro e w2 ⟨A2, c2, rfl, ho2, hb2⟩
        have I2 := hide (SlIn.of_own ho2)
        have B2 := hide (B1.out.trans (hb2.mono B1.out.size))
        have O2 := hide (sl_of hb2 O1.out)
        clear ho2 hb2 O1 S0 S3
        go_wp2_with fail
        by_cases hst : a1 < 0 ∨ (len0 : Int) < a1 ∨ a2 < 0
        · refine (shim3_bad A1 len0 c1 z0 A2 len3 c2 z3 w2 O2.out I2.out h h3 a1 a2 te pe hst ((B2.out.cell (p := ⟨1, 0, none⟩) HE1.out).trans HE.out) (Nat.lt_of_lt_of_le HE1.out B2.out.size)).mono ?_
          rintro e w4 ⟨rfl, hb4⟩
          have B4 := hide (B2.out.trans (hb4.mono B2.out.size))
          clear hb4
          by_cases hs0 : a1 < 0
          · go_wp2
            go_ret
            exact ⟨rfl, B4.out⟩
          · by_cases hs1 : (len0 : Int) < a1
            · go_wp2
              go_ret
              exact ⟨rfl, B4.out⟩
            · have hs2 : a2 < 0 := by omega
              go_wp2
              go_ret
              exact ⟨rfl, B4.out⟩
        · obtain ⟨st, rfl⟩ : ∃ st : Nat, a1 = (st : Int) := ⟨a1.toNat, by omega⟩
          obtain ⟨k, rfl⟩ : ∃ k : Nat, a2 = (k : Int) := ⟨a2.toNat, by omega⟩
          have hsn : st ≤ len0 := by omega
          clear hst
          refine (shim3_any A1 len0 c1 z0 A2 len3 c2 z3 w2 O2.out I2.out h h3 st k hsn (by omega)).mono ?_
          rintro e w4 ⟨Ap, cp, Aq, cq, rfl, hsp, hsq, hb4⟩
          have B4 := hide (B2.out.trans (hb4.mono B2.out.size))
          have O4 := hide (sl_of hb4 O2.out)
          have I4 := hide (sl_of hb4 I2.out)
          have hdle := dels_le len0 st k hsn
          have HDF := hide (show dels len0 st k = if st + k ≤ len0 then k else len0 - st from rfl)
          generalize dels len0 st k = d at *
          have P4 := hide hsp
          have Q4 := hide hsq
          clear hsp hsq hb4 O2 I2
          have HN2 := hide (show st + (len3 + (len0 - (st + d))) = len0 - d + len3 by omega)
          generalize hgn : st + (len3 + (len0 - (st + d))) = n2 at *
          clear hgn
          have hn2a : st + len3 ≤ n2 := by have := HN2.out; omega
          have hn2b : n2 ≤ 131072 := by have := HN2.out; omega
          have hlen : ((n2 : Int) != (len0 : Int) - (d : Int) + (len3 : Int)) = false := by have := HN2.out; simp; omega
          have hdd : ((d : Int) != (d : Int)) = false := by simp
          by_cases hu : st + k ≤ len0
          · obtain rfl : d = k := by have := HDF.out; rw [if_pos hu] at this; exact this
            have hle : ¬ (len0 : Int) - (st : Int) < (d : Int) := by omega
            clear HDF
            go_wp2_with fail
            go_loopw [14] (fun ix wr => ∃ j : Nat, j ≤ d ∧ ix = .int .i64 j ∧ ∃ q, wr = w4.drewN q) (fun ix _ => d - (intOf ix).toNat)
            case atStart => exact ⟨0, Nat.zero_le _, rfl, 0, rfl⟩
            case round =>
              obtain ⟨j, hj, rfl, q, rfl⟩ := hrel
              by_cases hlt : j < d
              · obtain ⟨b, off, x, hA, hb, hx, hc⟩ := O4.out.num (show st + j < len0 by omega)
                obtain ⟨b', off', y, hA', hb', hy, hc'⟩ := Q4.out.num hlt
                rw [List.getElem?_take, if_pos hlt, List.getElem?_drop] at hy
                obtain rfl : x = y := Option.some.inj (hx.symm.trans hy)
                subst hA hA'
                clear hx hy
                have hne : ((x : Int) != x) = false := by simp
                go_wp2
                have e1 : IntKind.i64.wrap ((st : Int) + (j : Int)) = (st : Int) + (j : Int) := IntWalk.i64_in _ (by omega)
                have e2 : (0 : Int) ≤ (st : Int) + (j : Int) := by omega
                have e3 : ((st : Int) + (j : Int)).toNat = st + j := by omega
                have e4 : (st : Int) + (j : Int) < (len0 : Int) := by omega
                go_quiet (fail)
                clear e1 e2 e3 e4
                go_wp2
                go_roundw
                case rel => exact ⟨j + 1, by omega, by go_num, _, rfl⟩
                case measure => simp [intOf]; omega
              · obtain rfl : d = j := by omega
                clear hj
                have O5 : Hid (SlIn (w4.drewN q) (w4.drewN q).heap.size A1 len0 c1 (z0.map (Value.int .i64))) := O4.out.drewN q
                have I5 : Hid (SlIn (w4.drewN q) (w4.drewN q).heap.size A2 len3 c2 (z3.map (Value.int .i64))) := I4.out.drewN q
                have P5 : Hid (SlIn (w4.drewN q) (w4.drewN q).heap.size Ap n2 cp ((z0.take st ++ (z3 ++ z0.drop (st + d))).map (Value.int .i64))) := P4.out.drewN q
                have B5 : Hid (Below w.heap.size w (w4.drewN q)) := below_drewN B4.out q
                clear O4 I4 P4 Q4 B4
                generalize w4.drewN q = w5 at O5 I5 P5 B5 ⊢
                have HL3 := hide (show z3.length = len3 by simpa using I5.out.len)
                have HL0 := hide (show z0.length = len0 by simpa using O5.out.len)
                go_wp2_with fail
                go_loopw [16] (fun ix wr => ∃ j : Nat, j ≤ st ∧ ix = .int .i64 j ∧ ∃ q, wr = w5.drewN q) (fun ix _ => st - (intOf ix).toNat)
                case atStart => exact ⟨0, Nat.zero_le _, rfl, 0, rfl⟩
                case round =>
                  obtain ⟨j, hj, rfl, q, rfl⟩ := hrel
                  by_cases hlt2 : j < st
                  · obtain ⟨b, off, x, hA, hb, hx, hc⟩ := O5.out.num (show j < len0 by omega)
                    obtain ⟨b', off', y, hA', hb', hy, hc'⟩ := P5.out.num (show j < n2 by omega)
                    rw [List.getElem?_append_left (by have := HL0.out; simp; omega), List.getElem?_take, if_pos hlt2] at hy
                    obtain rfl : x = y := Option.some.inj (hx.symm.trans hy)
                    subst hA hA'
                    clear hx hy
                    have hne : ((x : Int) != x) = false := by simp
                    have hkl : j < len0 := by omega
                    have hkl2 : j < n2 := by omega
                    go_wp2
                    go_quiet (fail)
                    go_wp2
                    go_roundw
                    case rel => exact ⟨j + 1, by omega, by go_num, _, rfl⟩
                    case measure => simp [intOf]; omega
                  · obtain rfl : st = j := by omega
                    clear hj
                    have O6 : Hid (SlIn (w5.drewN q) (w5.drewN q).heap.size A1 len0 c1 (z0.map (Value.int .i64))) := O5.out.drewN q
                    have I6 : Hid (SlIn (w5.drewN q) (w5.drewN q).heap.size A2 len3 c2 (z3.map (Value.int .i64))) := I5.out.drewN q
                    have P6 : Hid (SlIn (w5.drewN q) (w5.drewN q).heap.size Ap n2 cp ((z0.take st ++ (z3 ++ z0.drop (st + d))).map (Value.int .i64))) := P5.out.drewN q
                    have B6 : Hid (Below w.heap.size w (w5.drewN q)) := below_drewN B5.out q
                    clear O5 I5 P5 B5
                    generalize w5.drewN q = w6 at O6 I6 P6 B6 ⊢
                    go_wp2_with fail
                    go_loopw [17] (fun ix wr => ∃ j : Nat, j ≤ len3 ∧ ix = .int .i64 j ∧ ∃ q, wr = w6.drewN q) (fun ix _ => len3 - (intOf ix).toNat)
                    case atStart => exact ⟨0, Nat.zero_le _, rfl, 0, rfl⟩
                    case round =>
                      obtain ⟨j, hj, rfl, q, rfl⟩ := hrel
                      by_cases hlt3 : j < len3
                      · obtain ⟨b, off, x, hA, hb, hx, hc⟩ := I6.out.num hlt3
                        obtain ⟨b', off', y, hA', hb', hy, hc'⟩ := P6.out.num (show st + j < n2 by omega)
                        have htl : (z0.take st).length = st := by have := HL0.out; simp; omega
                        rw [List.getElem?_append_right (by omega), htl, Nat.add_sub_cancel_left, List.getElem?_append_left (by have := HL3.out; omega)] at hy
                        obtain rfl : x = y := Option.some.inj (hx.symm.trans hy)
                        subst hA hA'
                        clear hx hy htl
                        have hne : ((x : Int) != x) = false := by simp
                        go_wp2
                        have e1 : IntKind.i64.wrap ((st : Int) + (j : Int)) = (st : Int) + (j : Int) := IntWalk.i64_in _ (by omega)
                        have e2 : (0 : Int) ≤ (st : Int) + (j : Int) := by omega
                        have e3 : ((st : Int) + (j : Int)).toNat = st + j := by omega
                        have e4 : (st : Int) + (j : Int) < (n2 : Int) := by omega
                        go_quiet (fail)
                        clear e1 e2 e3 e4
                        go_wp2
                        go_roundw
                        case rel => exact ⟨j + 1, by omega, by go_num, _, rfl⟩
                        case measure => simp [intOf]; omega
                      · obtain rfl : len3 = j := by omega
                        clear hj
                        have O7 : Hid (SlIn (w6.drewN q) (w6.drewN q).heap.size A1 len0 c1 (z0.map (Value.int .i64))) := O6.out.drewN q
                        have P7 : Hid (SlIn (w6.drewN q) (w6.drewN q).heap.size Ap n2 cp ((z0.take st ++ (z3 ++ z0.drop (st + d))).map (Value.int .i64))) := P6.out.drewN q
                        have B7 : Hid (Below w.heap.size w (w6.drewN q)) := below_drewN B6.out q
                        clear O6 I6 P6 B6
                        generalize w6.drewN q = w7 at O7 P7 B7 ⊢
                        go_wp2_with fail
                        go_loopw [18] (fun ix wr => ∃ j : Nat, st + d + j ≤ len0 ∧ ix = .int .i64 j ∧ ∃ q, wr = w7.drewN q) (fun ix _ => len0 - (intOf ix).toNat)
                        case atStart => exact ⟨0, by omega, rfl, 0, rfl⟩
                        case round =>
                          obtain ⟨j, hj, rfl, q, rfl⟩ := hrel
                          by_cases hlt4 : st + d + j < len0
                          · obtain ⟨b, off, x, hA, hb, hx, hc⟩ := O7.out.num hlt4
                            obtain ⟨b', off', y, hA', hb', hy, hc'⟩ := P7.out.num (show st + len3 + j < n2 by have := HN2.out; omega)
                            have htl : (z0.take st).length = st := by have := HL0.out; simp; omega
                            rw [List.getElem?_append_right (by omega), htl, List.getElem?_append_right (by have := HL3.out; omega), List.getElem?_drop, HL3.out, show st + d + (st + len3 + j - st - len3) = st + d + j by omega] at hy
                            obtain rfl : x = y := Option.some.inj (hx.symm.trans hy)
                            subst hA hA'
                            clear hx hy htl
                            have hne : ((x : Int) != x) = false := by simp
                            have hkl2 : (st : Int) + (d : Int) + (j : Int) < (len0 : Int) := by omega
                            have hkl3 : (st : Int) + (len3 : Int) + (j : Int) < (n2 : Int) := by have := HN2.out; omega
                            go_wp2
                            have e1 : IntKind.i64.wrap ((st : Int) + (len3 : Int)) = (st : Int) + (len3 : Int) := IntWalk.i64_in _ (by omega)
                            have e1' : IntKind.i64.wrap ((st : Int) + (len3 : Int) + (j : Int)) = (st : Int) + (len3 : Int) + (j : Int) := IntWalk.i64_in _ (by omega)
                            have e2 : (0 : Int) ≤ (st : Int) + (len3 : Int) + (j : Int) := by omega
                            have e3 : ((st : Int) + (len3 : Int) + (j : Int)).toNat = st + len3 + j := by omega
                            have f1 : IntKind.i64.wrap ((st : Int) + (d : Int)) = (st : Int) + (d : Int) := IntWalk.i64_in _ (by omega)
                            have f1' : IntKind.i64.wrap ((st : Int) + (d : Int) + (j : Int)) = (st : Int) + (d : Int) + (j : Int) := IntWalk.i64_in _ (by omega)
                            have f2 : (0 : Int) ≤ (st : Int) + (d : Int) + (j : Int) := by omega
                            have f3 : ((st : Int) + (d : Int) + (j : Int)).toNat = st + d + j := by omega
                            go_quiet (fail)
                            clear e1 e1' e2 e3 f1 f1' f2 f3
                            go_wp2
                            go_roundw
                            case rel => exact ⟨j + 1, by omega, by go_num, _, rfl⟩
                            case measure => simp [intOf]; omega
                          · have hge : (len0 : Int) ≤ (st : Int) + (d : Int) + (j : Int) := by omega
                            go_wp2
                            go_ret
                            exact ⟨rfl, below_drewN B7.out _⟩
          · have hlt0 : (len0 : Int) - (st : Int) < (k : Int) := by omega
            have HDK := hide (show d = len0 - st by have := HDF.out; rw [if_neg hu] at this; exact this)
            have hdq : ((d : Int) != (len0 : Int) - (st : Int)) = false := by have := HDK.out; simp; omega
            clear HDF
            go_wp2_with fail
            rw [show ((len0 : Int) - (st : Int)) = (d : Int) by have := HDK.out; omega]
            go_loopw [14] (fun ix wr => ∃ j : Nat, j ≤ d ∧ ix = .int .i64 j ∧ ∃ q, wr = w4.drewN q) (fun ix _ => d - (intOf ix).toNat)
            case atStart => exact ⟨0, Nat.zero_le _, rfl, 0, rfl⟩
            case round =>
              obtain ⟨j, hj, rfl, q, rfl⟩ := hrel
              by_cases hlt : j < d
              · obtain ⟨b, off, x, hA, hb, hx, hc⟩ := O4.out.num (show st + j < len0 by omega)
                obtain ⟨b', off', y, hA', hb', hy, hc'⟩ := Q4.out.num hlt
                rw [List.getElem?_take, if_pos hlt, List.getElem?_drop] at hy
                obtain rfl : x = y := Option.some.inj (hx.symm.trans hy)
                subst hA hA'
                clear hx hy
                have hne : ((x : Int) != x) = false := by simp
                go_wp2
                have e1 : IntKind.i64.wrap ((st : Int) + (j : Int)) = (st : Int) + (j : Int) := IntWalk.i64_in _ (by omega)
                have e2 : (0 : Int) ≤ (st : Int) + (j : Int) := by omega
                have e3 : ((st : Int) + (j : Int)).toNat = st + j := by omega
                have e4 : (st : Int) + (j : Int) < (len0 : Int) := by omega
                go_quiet (fail)
                clear e1 e2 e3 e4
                go_wp2
                go_roundw
                case rel => exact ⟨j + 1, by omega, by go_num, _, rfl⟩
                case measure => simp [intOf]; omega
              · obtain rfl : d = j := by omega
                clear hj
                have O5 : Hid (SlIn (w4.drewN q) (w4.drewN q).heap.size A1 len0 c1 (z0.map (Value.int .i64))) := O4.out.drewN q
                have I5 : Hid (SlIn (w4.drewN q) (w4.drewN q).heap.size A2 len3 c2 (z3.map (Value.int .i64))) := I4.out.drewN q
                have P5 : Hid (SlIn (w4.drewN q) (w4.drewN q).heap.size Ap n2 cp ((z0.take st ++ (z3 ++ z0.drop (st + d))).map (Value.int .i64))) := P4.out.drewN q
                have B5 : Hid (Below w.heap.size w (w4.drewN q)) := below_drewN B4.out q
                clear O4 I4 P4 Q4 B4
                generalize w4.drewN q = w5 at O5 I5 P5 B5 ⊢
                have HL3 := hide (show z3.length = len3 by simpa using I5.out.len)
                have HL0 := hide (show z0.length = len0 by simpa using O5.out.len)
                go_wp2_with fail
                go_loopw [16] (fun ix wr => ∃ j : Nat, j ≤ st ∧ ix = .int .i64 j ∧ ∃ q, wr = w5.drewN q) (fun ix _ => st - (intOf ix).toNat)
                case atStart => exact ⟨0, Nat.zero_le _, rfl, 0, rfl⟩
                case round =>
                  obtain ⟨j, hj, rfl, q, rfl⟩ := hrel
                  by_cases hlt2 : j < st
                  · obtain ⟨b, off, x, hA, hb, hx, hc⟩ := O5.out.num (show j < len0 by omega)
                    obtain ⟨b', off', y, hA', hb', hy, hc'⟩ := P5.out.num (show j < n2 by omega)
                    rw [List.getElem?_append_left (by have := HL0.out; simp; omega), List.getElem?_take, if_pos hlt2] at hy
                    obtain rfl : x = y := Option.some.inj (hx.symm.trans hy)
                    subst hA hA'
                    clear hx hy
                    have hne : ((x : Int) != x) = false := by simp
                    have hkl : j < len0 := by omega
                    have hkl2 : j < n2 := by omega
                    go_wp2
                    go_quiet (fail)
                    go_wp2
                    go_roundw
                    case rel => exact ⟨j + 1, by omega, by go_num, _, rfl⟩
                    case measure => simp [intOf]; omega
                  · obtain rfl : st = j := by omega
                    clear hj
                    have O6 : Hid (SlIn (w5.drewN q) (w5.drewN q).heap.size A1 len0 c1 (z0.map (Value.int .i64))) := O5.out.drewN q
                    have I6 : Hid (SlIn (w5.drewN q) (w5.drewN q).heap.size A2 len3 c2 (z3.map (Value.int .i64))) := I5.out.drewN q
                    have P6 : Hid (SlIn (w5.drewN q) (w5.drewN q).heap.size Ap n2 cp ((z0.take st ++ (z3 ++ z0.drop (st + d))).map (Value.int .i64))) := P5.out.drewN q
                    have B6 : Hid (Below w.heap.size w (w5.drewN q)) := below_drewN B5.out q
                    clear O5 I5 P5 B5
                    generalize w5.drewN q = w6 at O6 I6 P6 B6 ⊢
                    go_wp2_with fail
                    go_loopw [17] (fun ix wr => ∃ j : Nat, j ≤ len3 ∧ ix = .int .i64 j ∧ ∃ q, wr = w6.drewN q) (fun ix _ => len3 - (intOf ix).toNat)
                    case atStart => exact ⟨0, Nat.zero_le _, rfl, 0, rfl⟩
                    case round =>
                      obtain ⟨j, hj, rfl, q, rfl⟩ := hrel
                      by_cases hlt3 : j < len3
                      · obtain ⟨b, off, x, hA, hb, hx, hc⟩ := I6.out.num hlt3
                        obtain ⟨b', off', y, hA', hb', hy, hc'⟩ := P6.out.num (show st + j < n2 by omega)
                        have htl : (z0.take st).length = st := by have := HL0.out; simp; omega
                        rw [List.getElem?_append_right (by omega), htl, Nat.add_sub_cancel_left, List.getElem?_append_left (by have := HL3.out; omega)] at hy
                        obtain rfl : x = y := Option.some.inj (hx.symm.trans hy)
                        subst hA hA'
                        clear hx hy htl
                        have hne : ((x : Int) != x) = false := by simp
                        go_wp2
                        have e1 : IntKind.i64.wrap ((st : Int) + (j : Int)) = (st : Int) + (j : Int) := IntWalk.i64_in _ (by omega)
                        have e2 : (0 : Int) ≤ (st : Int) + (j : Int) := by omega
                        have e3 : ((st : Int) + (j : Int)).toNat = st + j := by omega
                        have e4 : (st : Int) + (j : Int) < (n2 : Int) := by omega
                        go_quiet (fail)
                        clear e1 e2 e3 e4
                        go_wp2
                        go_roundw
                        case rel => exact ⟨j + 1, by omega, by go_num, _, rfl⟩
                        case measure => simp [intOf]; omega
                      · obtain rfl : len3 = j := by omega
                        clear hj
                        have O7 : Hid (SlIn (w6.drewN q) (w6.drewN q).heap.size A1 len0 c1 (z0.map (Value.int .i64))) := O6.out.drewN q
                        have P7 : Hid (SlIn (w6.drewN q) (w6.drewN q).heap.size Ap n2 cp ((z0.take st ++ (z3 ++ z0.drop (st + d))).map (Value.int .i64))) := P6.out.drewN q
                        have B7 : Hid (Below w.heap.size w (w6.drewN q)) := below_drewN B6.out q
                        clear O6 I6 P6 B6
                        generalize w6.drewN q = w7 at O7 P7 B7 ⊢
                        go_wp2_with fail
                        go_loopw [18] (fun ix wr => ∃ j : Nat, st + d + j ≤ len0 ∧ ix = .int .i64 j ∧ ∃ q, wr = w7.drewN q) (fun ix _ => len0 - (intOf ix).toNat)
                        case atStart => exact ⟨0, by omega, rfl, 0, rfl⟩
                        case round =>
                          obtain ⟨j, hj, rfl, q, rfl⟩ := hrel
                          by_cases hlt4 : st + d + j < len0
                          · obtain ⟨b, off, x, hA, hb, hx, hc⟩ := O7.out.num hlt4
                            obtain ⟨b', off', y, hA', hb', hy, hc'⟩ := P7.out.num (show st + len3 + j < n2 by have := HN2.out; omega)
                            have htl : (z0.take st).length = st := by have := HL0.out; simp; omega
                            rw [List.getElem?_append_right (by omega), htl, List.getElem?_append_right (by have := HL3.out; omega), List.getElem?_drop, HL3.out, show st + d + (st + len3 + j - st - len3) = st + d + j by omega] at hy
                            obtain rfl : x = y := Option.some.inj (hx.symm.trans hy)
                            subst hA hA'
                            clear hx hy htl
                            have hne : ((x : Int) != x) = false := by simp
                            have hkl2 : (st : Int) + (d : Int) + (j : Int) < (len0 : Int) := by omega
                            have hkl3 : (st : Int) + (len3 : Int) + (j : Int) < (n2 : Int) := by have := HN2.out; omega
                            go_wp2
                            have e1 : IntKind.i64.wrap ((st : Int) + (len3 : Int)) = (st : Int) + (len3 : Int) := IntWalk.i64_in _ (by omega)
                            have e1' : IntKind.i64.wrap ((st : Int) + (len3 : Int) + (j : Int)) = (st : Int) + (len3 : Int) + (j : Int) := IntWalk.i64_in _ (by omega)
                            have e2 : (0 : Int) ≤ (st : Int) + (len3 : Int) + (j : Int) := by omega
                            have e3 : ((st : Int) + (len3 : Int) + (j : Int)).toNat = st + len3 + j := by omega
                            have f1 : IntKind.i64.wrap ((st : Int) + (d : Int)) = (st : Int) + (d : Int) := IntWalk.i64_in _ (by omega)
                            have f1' : IntKind.i64.wrap ((st : Int) + (d : Int) + (j : Int)) = (st : Int) + (d : Int) + (j : Int) := IntWalk.i64_in _ (by omega)
                            have f2 : (0 : Int) ≤ (st : Int) + (d : Int) + (j : Int) := by omega
                            have f3 : ((st : Int) + (d : Int) + (j : Int)).toNat = st + d + j := by omega
                            go_quiet (fail)
                            clear e1 e1' e2 e3 f1 f1' f2 f3
                            go_wp2
                            go_roundw
                            case rel => exact ⟨j + 1, by omega, by go_num, _, rfl⟩
                            case measure => simp [intOf]; omega
                          · have hge : (len0 : Int) ≤ (st : Int) + (d : Int) + (j : Int) := by omega
                            go_wp2
                            go_ret
                            exact ⟨rfl, below_drewN B7.out _⟩
      · go_enter Tryd.func3, Tryd.ntmps3
        go_wp2_with (go_at_call 5; go_in)
        all_goals go_ret
        all_goals exact ⟨rfl, Below.refl _ _⟩
    · go_enter Tryd.func3, Tryd.ntmps3
      go_wp2_with (go_at_call 5; go_in)
      all_goals go_ret
      all_goals exact ⟨rfl, Below.refl _ _⟩
  · go_enter Tryd.func3, Tryd.ntmps3
    go_wp2_with (go_at_call 5; go_in)
    all_goals go_ret
    all_goals exact ⟨rfl, Below.refl _ _⟩
end Go.Proofs.YtdfjbegifibldaaDoor.fnSpliceMatchesModel
