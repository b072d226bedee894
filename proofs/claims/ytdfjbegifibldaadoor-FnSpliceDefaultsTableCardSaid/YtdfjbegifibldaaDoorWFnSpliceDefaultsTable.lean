/- The law FnSpliceDefaultsTable walked: the call returns true and writes nothing that was there. Its conditions: none beyond the arguments' types. -/
import Derived.Test.YtdfjbegifibldaaDoorProg
import Derived.Test.YtdfjbegifibldaaDoorBase
import Derived.Test.YtdfjbegifibldaaDoorRows
import Derived.Handy
import Derived.Outline
import Derived.WalkLawsBesides
import Derived.WalkSpells
import Derived.Deep.QuietTactic
import Derived.BigQuiet
import Derived.RegionTactic
import Derived.ChangeAlike
import Derived.Test.YtdfjbegifibldaaDoorLaid
import Derived.Test.YtdfjbegifibldaaDoorShim2
import Derived.MakeChecks
import Derived.Stop.LaidErr
import Derived.IntWalk
namespace Go.Proofs.YtdfjbegifibldaaDoor.fnSpliceDefaultsTable
open Go.RowKit Go.Proofs.YtdfjbegifibldaaDoor
theorem star : "*" ++ "errors.errorString" = "*errors.errorString" := by decide
theorem rowE (u : TypeId) (h : Tryd.prog.typeName? 3 u = some "*errors.errorString") : u = 52 :=
  typeName_ptr_named (nm := "errors.errorString") (by rw [star]; kernel_rfl) (by kernel_rfl) (by decide) u (by rw [star]; exact h)
theorem gE : Tryd.prog.globalNamed "github.com/d5/tengo/v2.ErrIndexOutOfBounds" = some 1 := by kernel_rfl
theorem errCell {w : World} (hL : laidMetH Tryd.prog Rows.fnSpliceDefaultsTableRow.laid w) : ∃ te pe, w.cell? ⟨1, 0, none⟩ = some (.iface te pe) := by
  rw [MakeChecks.laidMetH_plain _ _ _ (by kernel_rfl)] at hL
  obtain ⟨a, s, hv, _⟩ := laid_sentinel (tp := 52) (te := 78) (ts := 9) (ti := 43) hL gE (by kernel_rfl) Tryd.underlying43 rowE Tryd.underlying52 Tryd.underlying78 rfl rfl Tryd.underlying9 (by kernel_rfl) (by kernel_rfl)
  exact ⟨_, _, by rw [var_cell gE hv]; rfl⟩
set_option linter.unusedVariables false in
set_option maxRecDepth 100000 in
set_option maxHeartbeats 4000000 in
theorem walk (a0 : Option Addr) (len0 cap0 : Nat) (z0 : List Int) (a1 : Int) (w : World) (w0 : SlIn w w.heap.size a0 len0 cap0 (z0.map (Value.int .i64))) (wf0 : ∀ n ∈ z0, (Lit.int .i64 n).wf = true) (w1 : (Lit.int .i64 a1).wf = true) (hL : laidMetH Tryd.prog Rows.fnSpliceDefaultsTableRow.laid w) :
    Calls Tryd.prog 4 #[.slice a0 len0 cap0, .int .i64 a1] w fun e w' => e = .returned (.bool true) ∧ Below w.heap.size w w' := by
  have t0 := w0.top
  have l0 := w0.le
  unfold maxLen at t0
  have hba1 := bounds_i64 w1
  have S0 := hide w0
  have HL := hide (show z0.length = len0 by simpa using w0.len)
  obtain ⟨te, pe, hE⟩ := errCell hL
  have HE := hide hE
  have HE1 : Hid (1 < w.heap.size) := World.block_lt_of_cell? w _ hE
  clear w0 w1 wf0 hE hL
  by_cases h : len0 ≤ 65536
  · go_enter Tryd.func4, Tryd.ntmps4
    go_wp2_with (go_at_call 8; go_in)
    refine (cloneI_any a0 len0 cap0 z0 w S0.out (by omega)).mono ?_
    rintro e w1 ⟨A1, c1, rfl, ho1, hb1⟩
    have O1 := hide (SlIn.of_own ho1)
    have B1 := hide hb1
    clear ho1 hb1
    go_wp2_with fail
    refine (shim1_any A1 len0 c1 z0 w1 O1.out h).mono ?_
    rintro e w2 ⟨Ax, cx, Ay, cy, rfl, hsx, hsy, hb2⟩
    have B2 := hide hb2
    have Y2 := hide hsy
    have O2 := hide (sl_of hb2 O1.out)
    clear hsx hsy hb2
    go_wp2_with fail
    go_loopw [8] (fun ix wr => ∃ k : Nat, k ≤ len0 ∧ ix = .int .i64 k ∧ ∃ q, wr = w2.drewN q) (fun ix _ => len0 - (intOf ix).toNat)
    case atStart => exact ⟨0, Nat.zero_le _, rfl, 0, rfl⟩
    case round =>
      obtain ⟨k, hk, rfl, q, rfl⟩ := hrel
      by_cases hlt : k < len0
      · obtain ⟨b, off, x, hA, hb, hx, hc⟩ := O2.out.num hlt
        obtain ⟨b', off', y, hA', hb', hy, hc'⟩ := Y2.out.num hlt
        obtain rfl : x = y := Option.some.inj (hx.symm.trans hy)
        subst hA hA'
        clear hx hy
        have hne : ((x : Int) != x) = false := by simp
        go_wp2
        go_quiet (fail)
        go_wp2
        go_roundw
        case rel => exact ⟨k + 1, by omega, by go_num, _, rfl⟩
        case measure => simp [intOf]; omega
      · obtain rfl : len0 = k := by omega
        clear hk
        have O3 : Hid (SlIn (w2.drewN q) (w2.drewN q).heap.size A1 len0 c1 (z0.map (Value.int .i64))) := O2.out.drewN q
        have B3 : Hid (Below w.heap.size w (w2.drewN q)) := below_drewN (B1.out.trans (B2.out.mono B1.out.size)) q
        generalize w2.drewN q = w3 at O3 B3 ⊢
        by_cases hst : a1 < 0 ∨ (len0 : Int) < a1
        · go_wp2_with fail
          refine (shim2_bad A1 len0 c1 z0 w3 O3.out h a1 te pe hst ((B3.out.cell (p := ⟨1, 0, none⟩) HE1.out).trans HE.out) (Nat.lt_of_lt_of_le HE1.out B3.out.size)).mono ?_
          rintro e w4 ⟨rfl, hb4⟩
          have B4 := hide (B3.out.trans (hb4.mono B3.out.size))
          clear hb4
          by_cases hs0 : a1 < 0
          · go_wp2
            go_ret
            exact ⟨rfl, B4.out⟩
          · have hs1 : (len0 : Int) < a1 := by omega
            go_wp2
            go_ret
            exact ⟨rfl, B4.out⟩
        · obtain ⟨st, rfl⟩ : ∃ st : Nat, a1 = (st : Int) := ⟨a1.toNat, by omega⟩
          have hsn : st ≤ len0 := by omega
          clear hst
          go_wp2_with fail
          refine (shim2_any A1 len0 c1 z0 w3 O3.out h st hsn).mono ?_
          rintro e w4 ⟨Ap, cp, Aq, cq, rfl, hsp, hsq, hb4⟩
          have B4 := hide (B3.out.trans (hb4.mono B3.out.size))
          have P4 := hide hsp
          have Q4 := hide hsq
          have O4 := hide (sl_of hb4 O3.out)
          clear hsp hsq hb4
          go_wp2_with fail
          go_loopw [13] (fun ix wr => ∃ k : Nat, k ≤ st ∧ ix = .int .i64 k ∧ ∃ q, wr = w4.drewN q) (fun ix _ => st - (intOf ix).toNat)
          case atStart => exact ⟨0, Nat.zero_le _, rfl, 0, rfl⟩
          case round =>
            obtain ⟨k, hk, rfl, q, rfl⟩ := hrel
            by_cases hlt2 : k < st
            · obtain ⟨b, off, x, hA, hb, hx, hc⟩ := O4.out.num (show k < len0 by omega)
              obtain ⟨b', off', y, hA', hb', hy, hc'⟩ := P4.out.num hlt2
              rw [List.getElem?_take, if_pos hlt2] at hy
              obtain rfl : x = y := Option.some.inj (hx.symm.trans hy)
              subst hA hA'
              clear hx hy
              have hne : ((x : Int) != x) = false := by simp
              have hkl : k < len0 := by omega
              go_wp2
              go_quiet (fail)
              go_wp2
              go_roundw
              case rel => exact ⟨k + 1, by omega, by go_num, _, rfl⟩
              case measure => simp [intOf]; omega
            · obtain rfl : st = k := by omega
              clear hk
              have O5 : Hid (SlIn (w4.drewN q) (w4.drewN q).heap.size A1 len0 c1 (z0.map (Value.int .i64))) := O4.out.drewN q
              have Q5 : Hid (SlIn (w4.drewN q) (w4.drewN q).heap.size Aq (len0 - st) cq ((z0.drop st).map (Value.int .i64))) := Q4.out.drewN q
              have B5 : Hid (Below w.heap.size w (w4.drewN q)) := below_drewN B4.out q
              generalize w4.drewN q = w5 at O5 Q5 B5 ⊢
              go_wp2_with fail
              go_loopw [14] (fun ix wr => ∃ k : Nat, st + k ≤ len0 ∧ ix = .int .i64 k ∧ ∃ q, wr = w5.drewN q) (fun ix _ => len0 - (intOf ix).toNat)
              case atStart => exact ⟨0, by omega, rfl, 0, rfl⟩
              case round =>
                obtain ⟨k, hk, rfl, q, rfl⟩ := hrel
                by_cases hlt3 : st + k < len0
                · obtain ⟨b, off, x, hA, hb, hx, hc⟩ := O5.out.num hlt3
                  obtain ⟨b', off', y, hA', hb', hy, hc'⟩ := Q5.out.num (show k < len0 - st by omega)
                  rw [List.getElem?_drop] at hy
                  obtain rfl : x = y := Option.some.inj (hx.symm.trans hy)
                  subst hA hA'
                  clear hx hy
                  have hne : ((x : Int) != x) = false := by simp
                  have hkl : (k : Int) < ((len0 - st : Nat) : Int) := by omega
                  have hkl2 : (st : Int) + (k : Int) < (len0 : Int) := by omega
                  go_wp2
                  have e1 : IntKind.i64.wrap ((st : Int) + (k : Int)) = (st : Int) + (k : Int) := IntWalk.i64_in _ (by omega)
                  have e2 : (0 : Int) ≤ (st : Int) + (k : Int) := by omega
                  have e3 : ((st : Int) + (k : Int)).toNat = st + k := by omega
                  go_quiet (fail)
                  clear e1 e2 e3
                  go_wp2
                  go_roundw
                  case rel => exact ⟨k + 1, by omega, by go_num, _, rfl⟩
                  case measure => simp [intOf]; omega
                · have hge : (len0 : Int) ≤ (st : Int) + (k : Int) := by omega
                  go_wp2
                  go_ret
                  exact ⟨rfl, below_drewN B5.out _⟩
  · go_enter Tryd.func4, Tryd.ntmps4
    go_wp2_with (go_at_call 8; go_in)
    all_goals go_ret
    all_goals exact ⟨rfl, Below.refl _ _⟩
end Go.Proofs.YtdfjbegifibldaaDoor.fnSpliceDefaultsTable
