/- The law FnInheritedIndexSetRefusedAndHarmless walked: the call returns true and writes nothing that was there. Its conditions: none beyond the arguments' types. -/
import Derived.Test.YtfcghckaikkjbaaDoorProg
import Derived.Test.YtfcghckaikkjbaaDoorBase
import Derived.Test.YtfcghckaikkjbaaDoorRows
import Derived.Handy
import Derived.Outline
import Derived.WalkLawsBesides
import Derived.WalkSpells
import Derived.Deep.QuietTactic
import Derived.BigQuiet
import Derived.RegionTactic
import Derived.ChangeAlike
import Derived.Test.YtfcghckaikkjbaaDoorLaid
import Derived.Test.YtfcghckaikkjbaaDoorField
import Derived.MakeChecks
import Derived.Stop.LaidErr
import Derived.LaidEql
namespace Go.Proofs.YtfcghckaikkjbaaDoor.fnInheritedIndexSetRefusedAndHarmless
open Go.RowKit Go.Proofs.YtfcghckaikkjbaaDoor
theorem star : "*" ++ "errors.errorString" = "*errors.errorString" := by decide
theorem rowE (u : TypeId) (h : Tryd.prog.typeName? 3 u = some "*errors.errorString") : u = 63 :=
  typeName_ptr_named (nm := "errors.errorString") (by rw [star]; kernel_rfl) (by kernel_rfl) (by decide) u (by rw [star]; exact h)
theorem gE : Tryd.prog.globalNamed "github.com/d5/tengo/v2.ErrNotIndexAssignable" = some 0 := by kernel_rfl
theorem errCell {w : World} (hL : laidMetH Tryd.prog Rows.fnInheritedIndexSetRefusedAndHarmlessRow.laid w) : ∃ a, w.cell? ⟨0, 0, none⟩ = some (.iface 63 (.pointer (some a))) := by
  rw [MakeChecks.laidMetH_plain _ _ _ (by kernel_rfl)] at hL
  obtain ⟨a, s, hv, _⟩ := laid_sentinel (tp := 63) (te := 101) (ts := 9) (ti := 40) hL gE (by kernel_rfl) Tryd.underlying40 rowE Tryd.underlying63 Tryd.underlying101 rfl rfl Tryd.underlying9 (by kernel_rfl) (by kernel_rfl)
  exact ⟨a, by rw [var_cell gE hv]; rfl⟩
theorem sl_of {w2 w' : World} {A : Option Addr} {n c : Nat} {xs : List Value} (hb : Below w2.heap.size w2 w') (h : SlIn w2 w2.heap.size A n c xs) : SlIn w' w'.heap.size A n c xs := (h.below hb (Nat.le_refl _)).mono hb.size
set_option linter.unusedVariables false in
set_option maxRecDepth 100000 in
set_option maxHeartbeats 6000000 in
theorem walk (a0 : Option Addr) (len0 cap0 : Nat) (z0 : List Int) (a1 : Option Addr) (len1 cap1 : Nat) (z1 : List UInt8) (a2 : Int) (a3 : Int) (w : World) (w0 : SlIn w w.heap.size a0 len0 cap0 (z0.map (Value.int .i64))) (wf0 : ∀ n ∈ z0, (Lit.int .i64 n).wf = true) (w1 : SlIn w w.heap.size a1 len1 cap1 (z1.map bt)) (w2 : (Lit.int .i64 a2).wf = true) (w3 : (Lit.int .i64 a3).wf = true) (hL : laidMetH Tryd.prog Rows.fnInheritedIndexSetRefusedAndHarmlessRow.laid w) :
    Calls Tryd.prog 3 #[.slice a0 len0 cap0, .slice a1 len1 cap1, .int .i64 a2, .int .i64 a3] w fun e w' => e = .returned (.bool true) ∧ Below w.heap.size w w' := by
  have t0 := w0.top
  have l0 := w0.le
  have t1 := w1.top
  have l1 := w1.le
  unfold maxLen at t0 t1
  have S0 := hide w0
  have S1 := hide w1
  obtain ⟨a, hE⟩ := errCell hL
  have HE := hide hE
  have HE1 : Hid (0 < w.heap.size) := World.block_lt_of_cell? w _ hE
  obtain ⟨i, hi, hz0, hz1, hz2⟩ := info_parts info_obj
  clear w0 w1 w2 w3 wf0 hE hL
  by_cases h : len0 ≤ 131072 ∧ len1 ≤ 1048576 ∧ 8 * len0 + len1 ≤ 1048576
  · obtain ⟨h0, h1, h2⟩ := h
    go_enter Tryd.func3, Tryd.ntmps3
    go_wp2_with (go_at_call 4; go_in)
    refine (cloneI_any a0 len0 cap0 z0 w S0.out (by omega)).mono ?_
    rintro e w1 ⟨A0, c0, rfl, ho1, hb1⟩
    have O1 := hide (SlIn.of_own ho1)
    have B1 := hide hb1
    clear ho1 hb1
    go_wp2_with fail
    refine (clone_any a1 len1 cap1 z1 w1 (sl_of B1.out S1.out) (by omega)).mono ?_
    rintro e w2 ⟨A1, c1, rfl, ho2, hb2⟩
    have X2 := hide (SlIn.of_own ho2)
    have B2 := hide (B1.out.trans (hb2.mono B1.out.size))
    have O2 := hide (sl_of hb2 O1.out)
    have HL := hide (show z0.length = len0 by simpa using O1.out.len)
    clear ho2 hb2 O1 S0 S1 B1
    go_wp2_with (at_make; refine wpList_make_full _ rfl _ _ 27 rfl w2.heap.size 34 i .nilIface 1 Tryd.underlying27 hi hz0 hz1 _ _ _ _ len0 rfl rfl (by simp) (by simp) (by rw [hz2]; omega) (by unfold maxLen; omega) (Nat.le_refl _) ?_; intro w3 hown3 hgrow3; have O3 := hide hown3; have B3 := hide ((Below.refl w2.heap.size w2).grown hgrow3 (Nat.le_refl _) (fun k hk => by cases hk)); clear hown3 hgrow3)
    have F3 : Hid (Fill w2 w3 w2.heap.size len0 0 [] z0) := by
      refine ⟨?_, Objs.nil _ _, B3.out⟩
      have := O3.out
      rw [Nat.mul_one, show (Value.nilIface).cells = #[.nilIface] from rfl, toList_madeCells_one] at this
      simpa using this
    clear O3 B3
    go_wp2
    go_loopw [10] (fun ix wr => ∃ (k : Nat) (vs : List Value), k ≤ len0 ∧ ix = .int .i64 k ∧ Hid (Fill w2 wr w2.heap.size len0 k vs z0)) (fun ix _ => len0 - (intOf ix).toNat)
    case atStart => exact ⟨0, [], Nat.zero_le _, rfl, F3⟩
    case round =>
      obtain ⟨k, vs, hk, rfl, F⟩ := hrel
      clear F3
      by_cases hlt : k < len0
      · obtain ⟨b, off, x, hA, hb, hx, hc⟩ := (O2.out.below F.out.bel (Nat.le_refl _)).num hlt
        subst hA
        have hl : k < len0 * 1 := by omega
        have hgl := (F.out.own.lt w2.heap.size rfl).2
        have hbz := F.out.bel.size
        have hdst : wr.cell? ⟨w2.heap.size, k, none⟩ = some ((vs ++ List.replicate (len0 - k) .nilIface)[k]?.getD .nilIface) := by
          rw [F.out.own.cellAt k hl]
          have : k < (vs ++ List.replicate (len0 - k) Value.nilIface).length := by have := F.out.own.1; omega
          rw [List.getElem?_eq_getElem this]; rfl
        have hfr : wr.frozen? ⟨w2.heap.size, k, none⟩ = false := F.out.own.frozenAt k
        have R := hide (F.out.step' HL.out hlt hx)
        clear hx
        go_wp2
        go_roundw
        case rel => exact ⟨k + 1, _, by omega, by go_num, R⟩
        case measure => simp [intOf]; omega
      · obtain rfl : len0 = k := by omega
        clear hk
        have OW : Hid (SlIn wr wr.heap.size (some ⟨w2.heap.size, 0, none⟩) len0 len0 vs) := by
          have h := F.out.own
          rw [Nat.sub_self, List.replicate_zero, List.append_nil] at h
          exact SlIn.of_own h
        have OV : Hid (Objs wr w2.heap.size vs z0) := by
          have h := F.out.obj
          rw [List.take_of_length_le (Nat.le_of_eq HL.out)] at h
          exact h
        have OX := hide (sl_of F.out.bel O2.out)
        have XX := hide (sl_of F.out.bel X2.out)
        have BB := hide (B2.out.trans (F.out.bel.mono B2.out.size))
        have hE : wr.cell? ⟨0, 0, none⟩ = some (.iface 63 (.pointer (some a))) := (BB.out.cell (p := ⟨0, 0, none⟩) HE1.out).trans HE.out
        have hE1 : 0 < wr.heap.size := Nat.lt_of_lt_of_le HE1.out BB.out.size
        clear F B2 O2 X2
        generalize w2.heap.size = g at *
        go_wp2_with (with_reducible refine wpList_fieldFirst rfl 37 (.tmp 66) rfl wr.heap.size rfl (fa37 (.slice (some ⟨g, 0, none⟩) len0 len0) wr) ?_)
        have BN : Hid (Below wr.heap.size wr (((wr.alloc (.cells #[.slice (some ⟨g, 0, none⟩) len0 len0] 37)).alloc (.cells #[.int .i64 a2] 32)).alloc (.cells #[.int .i64 a3] 32))) := (((Below.refl _ _).alloc (Nat.le_refl _) _).alloc (by simp) _).alloc (by simp; omega) _
        have KI : Hid (Blk (((wr.alloc (.cells #[.slice (some ⟨g, 0, none⟩) len0 len0] 37)).alloc (.cells #[.int .i64 a2] 32)).alloc (.cells #[.int .i64 a3] 32)) wr.heap.size #[.slice (some ⟨g, 0, none⟩) len0 len0] 37) := ((Blk.new wr _ _).alloc _).alloc _
        generalize (((wr.alloc (.cells #[.slice (some ⟨g, 0, none⟩) len0 len0] 37)).alloc (.cells #[.int .i64 a2] 32)).alloc (.cells #[.int .i64 a3] 32)) = w4 at *
        have OW4 := hide (sl_of BN.out OW.out)
        have OV4 := hide (OV.out.below BN.out)
        have OX4 := hide (sl_of BN.out OX.out)
        have XX4 := hide (sl_of BN.out XX.out)
        have B4 := hide (BB.out.trans (BN.out.mono BB.out.size))
        have hE4 : w4.cell? ⟨0, 0, none⟩ = some (.iface 63 (.pointer (some a))) := (BN.out.cell (p := ⟨0, 0, none⟩) hE1).trans hE
        have hE5 : 0 < w4.heap.size := Nat.lt_of_lt_of_le hE1 BN.out.size
        generalize wr.heap.size = bi at *
        clear OW OV OX XX BB BN hE hE1
        refine (idxSet a _ _ _ _ hE4).mono ?_
        rintro e w' ⟨rfl, rfl⟩
        go_wp2_with fail
        refine (notAssign a _ hE4).mono ?_
        rintro e w' ⟨rfl, rfl⟩
        have hki := KI.out.at (i := 0) (v := .slice (some ⟨g, 0, none⟩) len0 len0) rfl
        go_wp2_with fail
        go_loopw [12] (fun ix wr => ∃ k : Nat, k ≤ len0 ∧ ix = .int .i64 k ∧ Hid (Below w4.heap.size w4 wr)) (fun ix _ => len0 - (intOf ix).toNat)
        case atStart => exact ⟨0, Nat.zero_le _, rfl, Below.refl _ _⟩
        case round =>
          obtain ⟨k, hk, rfl, F⟩ := hrel
          clear hki
          by_cases hlt : k < len0
          · obtain ⟨b, off, x, hA, hb, hx, hc⟩ := (OX4.out.below F.out (Nat.le_refl _)).num hlt
            obtain ⟨b', off', u, hA', hb', hu, hc'⟩ := (OW4.out.below F.out (Nat.le_refl _)).cell hlt
            subst hA
            simp only [Option.some.injEq, Addr.mk.injEq, and_true] at hA'
            obtain ⟨rfl, rfl⟩ := hA'
            rw [Nat.zero_add] at hc'
            obtain ⟨bo, rfl, _, hblk⟩ := OV4.out.get k u x hu hx
            have hlo : bo < wr.heap.size := Nat.lt_of_lt_of_le hblk.lt F.out.size
            have hci := (hblk.below F.out hblk.lt).at (i := 0) (v := .int .i64 x) rfl
            have hki := (KI.out.below F.out KI.out.lt).at (i := 0) (v := .slice (some ⟨g, 0, none⟩) len0 len0) rfl
            have hli : bi < wr.heap.size := Nat.lt_of_lt_of_le KI.out.lt F.out.size
            have hlb : b < wr.heap.size := Nat.lt_of_lt_of_le hb F.out.size
            have hlg : g < wr.heap.size := Nat.lt_of_lt_of_le hb' F.out.size
            have hsz := F.out.size
            clear hx hu hblk
            go_wp2_with fail
            go_region_with (go_at_call 28; refine (equals_same _ _ x _ ?_ ?_).mono ?_; (go_simp); (go_simp); rintro e w' ⟨rfl, q, rfl⟩)
            all_goals
              go_wp2
              go_roundw
              case rel => exact ⟨k + 1, by omega, by go_num, hide (below_drewN (F.out.alloc hsz _) _)⟩
              case measure => simp [intOf]; omega
          · obtain rfl : len0 = k := by omega
            clear hk
            have XX5 := hide (sl_of F.out XX4.out)
            have B5 := hide (B4.out.trans (F.out.mono B4.out.size))
            have hE6 : wr.cell? ⟨0, 0, none⟩ = some (.iface 63 (.pointer (some a))) := (F.out.cell (p := ⟨0, 0, none⟩) hE5).trans hE4
            have hE7 : 0 < wr.heap.size := Nat.lt_of_lt_of_le hE5 F.out.size
            clear F XX4 B4 hE4 hE5 OW4 OV4 OX4 KI
            go_wp2_with fail
            refine (clone_any A1 len1 c1 z1 wr XX5.out (by omega)).mono ?_
            rintro e w5 ⟨A2, c2, rfl, ho5, hb5⟩
            have C5 := hide (SlIn.of_own ho5)
            have D5 := hide (sl_of hb5 XX5.out)
            have B6 := hide (B5.out.trans (hb5.mono B5.out.size))
            have hE8 : w5.cell? ⟨0, 0, none⟩ = some (.iface 63 (.pointer (some a))) := (hb5.cell (p := ⟨0, 0, none⟩) hE7).trans hE6
            have hE9 : 0 < w5.heap.size := Nat.lt_of_lt_of_le hE7 hb5.size
            clear ho5 hb5 XX5 B5 hE6 hE7
            go_wp2_with (with_reducible refine wpList_fieldFirst rfl 45 (.tmp 116) rfl w5.heap.size rfl (fa45 (.slice A2 len1 c2) w5) ?_)
            have BN : Hid (Below w5.heap.size w5 (((w5.alloc (.cells #[.slice A2 len1 c2] 45)).alloc (.cells #[.int .i64 a2] 32)).alloc (.cells #[.int .i64 a3] 32))) := (((Below.refl _ _).alloc (Nat.le_refl _) _).alloc (by simp) _).alloc (by simp; omega) _
            have KB : Hid (Blk (((w5.alloc (.cells #[.slice A2 len1 c2] 45)).alloc (.cells #[.int .i64 a2] 32)).alloc (.cells #[.int .i64 a3] 32)) w5.heap.size #[.slice A2 len1 c2] 45) := ((Blk.new w5 _ _).alloc _).alloc _
            generalize (((w5.alloc (.cells #[.slice A2 len1 c2] 45)).alloc (.cells #[.int .i64 a2] 32)).alloc (.cells #[.int .i64 a3] 32)) = w6 at *
            have C6 := hide (sl_of BN.out C5.out)
            have D6 := hide (sl_of BN.out D5.out)
            have B7 := hide (B6.out.trans (BN.out.mono B6.out.size))
            have hEa : w6.cell? ⟨0, 0, none⟩ = some (.iface 63 (.pointer (some a))) := (BN.out.cell (p := ⟨0, 0, none⟩) hE9).trans hE8
            have hEb : 0 < w6.heap.size := Nat.lt_of_lt_of_le hE9 BN.out.size
            have hkb := KB.out.at (i := 0) (v := .slice A2 len1 c2) rfl
            generalize w5.heap.size = bb at *
            clear BN C5 D5 B6 hE8 hE9 KB
            refine (idxSet a _ _ _ _ hEa).mono ?_
            rintro e w' ⟨rfl, rfl⟩
            go_wp2_with fail
            refine (notAssign a _ hEa).mono ?_
            rintro e w' ⟨rfl, rfl⟩
            go_wp2_with fail
            go_loopw [14] (fun ix wr => ∃ k : Nat, k ≤ len1 ∧ ix = .int .i64 k ∧ ∃ q, wr = w6.drewN q) (fun ix _ => len1 - (intOf ix).toNat)
            case atStart => exact ⟨0, Nat.zero_le _, rfl, 0, rfl⟩
            case round =>
              obtain ⟨k, hk, rfl, q, rfl⟩ := hrel
              by_cases hlt : k < len1
              · obtain ⟨b, off, x, hA, hb, hx, hc⟩ := D6.out.byte hlt
                obtain ⟨b', off', y, hA', hb', hy, hc'⟩ := C6.out.byte hlt
                obtain rfl : x = y := Option.some.inj (hx.symm.trans hy)
                subst hA hA'
                clear hx hy
                have hne : ((x.toNat : Int) != (x.toNat : Int)) = false := by simp
                go_wp2
                go_quiet (fail)
                go_wp2
                go_roundw
                case rel => exact ⟨k + 1, by omega, by go_num, _, rfl⟩
                case measure => simp [intOf]; omega
              · have hEc : (w6.drewN q).cell? ⟨0, 0, none⟩ = some (.iface 63 (.pointer (some a))) := hEa
                have hEd : 0 < (w6.drewN q).heap.size := hEb
                have B8 : Hid (Below w.heap.size w (w6.drewN q)) := below_drewN B7.out q
                clear hEa hEb B7 C6 D6 hkb
                generalize w6.drewN q = w7 at hEc hEd B8 ⊢
                go_wp2_with (with_reducible refine wpList_fieldFirst rfl 32 (.tmp 159) rfl w7.heap.size rfl (fa32 (.int .i64 a2) w7) ?_)
                refine (idxSet a _ _ _ _ (by go_simp)).mono ?_
                rintro e w' ⟨rfl, rfl⟩
                go_wp2_with fail
                refine (notAssign a _ (by go_simp)).mono ?_
                rintro e w' ⟨rfl, rfl⟩
                go_wp2_with fail
                go_ret
                refine ⟨by simp, ?_⟩
                have := B8.out.size
                exact (((B8.out.alloc B8.out.size _).alloc (by simp; omega) _).alloc (by simp; omega) _)
  · by_cases h0 : len0 ≤ 131072
    · by_cases h1 : len1 ≤ 1048576
      · have h2 : (1048576 : Int) < 8 * (len0 : Int) + (len1 : Int) := by omega
        go_enter Tryd.func3, Tryd.ntmps3
        go_wp2_with (go_at_call 4; go_in)
        all_goals go_ret
        all_goals exact ⟨rfl, Below.refl _ _⟩
      · go_enter Tryd.func3, Tryd.ntmps3
        go_wp2_with (go_at_call 4; go_in)
        all_goals go_ret
        all_goals exact ⟨rfl, Below.refl _ _⟩
    · go_enter Tryd.func3, Tryd.ntmps3
      go_wp2_with (go_at_call 4; go_in)
      all_goals go_ret
      all_goals exact ⟨rfl, Below.refl _ _⟩
end Go.Proofs.YtfcghckaikkjbaaDoor.fnInheritedIndexSetRefusedAndHarmless
