/- The law FnWriteAgreesWithOtherWriters walked: the call returns true and writes nothing that was there. Its conditions: none beyond the arguments' types. -/
import Derived.Test.YteladbeaecmceaaDoorProg
import Derived.Test.YteladbeaecmceaaDoorBase
import Derived.Test.YteladbeaecmceaaDoorRows
import Derived.Handy
import Derived.Outline
import Derived.WalkLawsBesides
import Derived.WalkSpells
import Derived.Deep.QuietTactic
import Derived.BigQuiet
import Derived.RegionTactic
import Derived.ChangeAlike
import Derived.Test.YteladbeaecmceaaDoorLaid
import Derived.Test.YteladbeaecmceaaDoorPW
import Derived.Test.YteladbeaecmceaaDoorNew
import Derived.Test.YteladbeaecmceaaDoorSame
import Derived.MakeChecks
namespace Go.Proofs.YteladbeaecmceaaDoor.fnWriteAgreesWithOtherWriters
open Go.RowKit Go.Proofs.YteladbeaecmceaaDoor
theorem maxCell {w : World} (hL : laidMetH Tryd.prog Rows.fnWriteAgreesWithOtherWritersRow.laid w) : w.cell? ⟨0, 0, none⟩ = some (.int .i64 2147483647) := by
  rw [MakeChecks.laidMetH_plain _ _ _ (by kernel_rfl)] at hL
  exact laid_int (t := 3) hL (n := "github.com/d5/tengo/v2.MaxStringLen") (by simp [Rows.fnWriteAgreesWithOtherWritersRow, Rows.laid_github_com_d5_tengo_v2_MaxStringLen]) (by kernel_rfl) (by kernel_rfl) Tryd.underlying3
theorem own_shape {w : World} {base E n c : Nat} {A : Option Addr} {xs : List Value} (h : w.ownsRow base E 1 (.slice A n c) n xs) : A = none ∨ ∃ b off, A = some ⟨b, off, none⟩ := by
  rcases h.2 with ⟨h', _⟩ | ⟨g, cap, cur, h', _⟩
  · simp only [Value.slice.injEq] at h'; exact .inl h'.1
  · simp only [Value.slice.injEq] at h'; exact .inr ⟨g, 0, h'.1⟩
theorem conv_nil (w : World) : (convert 22 9 (.slice none 0 0)).run Tryd.prog w = .ok (.string ⟨#[]⟩) w := by kernel_rfl
theorem conv_sl {w : World} {B n c : Nat} {A : Option Addr} {zs : List UInt8} (h : SlIn w B A n c (zs.map bt)) (hA : A = none ∨ ∃ b off, A = some ⟨b, off, none⟩) : (convert 22 9 (.slice A n c)).run Tryd.prog w = .ok (.string ⟨zs.toArray⟩) w := by
  rcases hA with rfl | ⟨b, off, rfl⟩
  · obtain ⟨rfl, rfl⟩ := h.isNil rfl
    obtain rfl : zs = [] := List.eq_nil_of_length_eq_zero h.size
    exact conv_nil w
  · rw [← h.size]
    exact run_convert_bytes_back (P := Tryd.prog) w 22 9 5 ⟨b, off, none⟩ c zs Tryd.underlying22 Tryd.underlying5 Tryd.underlying9 (fun j hj => by
      obtain ⟨b', off', e, _, hc⟩ := h.cells j (bt zs[j]) (by rw [List.getElem?_map, List.getElem?_eq_getElem hj]; rfl)
      simp only [Option.some.injEq, Addr.mk.injEq, and_true] at e
      obtain ⟨rfl, rfl⟩ := e
      have e2 : (⟨b, off, none⟩ : Addr).add j = ⟨b, off + j, none⟩ := by
        by_cases hj0 : j = 0 <;> simp [Addr.add, hj0]
      rw [e2]
      exact hc)
theorem Holds_below {R : List Value} {base E T pb n : Nat} {xs : List Value} {w w' : World} (h : Holds R base E T pb n xs w) (hb : Below w.heap.size w w') : Holds R base E T pb n xs w' := by
  obtain ⟨A, c, hx, ho⟩ := h
  have hlt : pb < w.heap.size := (Array.getElem?_eq_some_iff.1 hx).1
  exact ⟨A, c, (hb.block pb hlt).trans hx, own_below ho hb⟩
theorem Told_below {R : List Value} {base pb n m c : Nat} {A : Option Addr} {xs ys : List Value} {w w' : World} (ho : w.ownsRow base 5 1 (.slice A n c) n xs) (hb : base ≤ w.heap.size) (hp : base ≤ pb) (h : Only pb (Value.ownBlock (.slice A n c)) w w') (_h2 : Holds R base 5 45 pb m ys w') : Below base w w' :=
  h.below hb hp (fun k hk => (ho.lt k hk).1)
set_option linter.unusedVariables false in
set_option maxRecDepth 100000 in
set_option maxHeartbeats 4000000 in
theorem walk (a0 : Option Addr) (len0 cap0 : Nat) (z0 : List UInt8) (w : World) (w0 : SlIn w w.heap.size a0 len0 cap0 (z0.map bt)) (hL : laidMetH Tryd.prog Rows.fnWriteAgreesWithOtherWritersRow.laid w) :
    Calls Tryd.prog 3 #[.slice a0 len0 cap0] w fun e w' => e = .returned (.bool true) ∧ Below w.heap.size w w' := by
  have t0 := w0.top
  have l0 := w0.le
  unfold maxLen at t0
  have HM := hide (maxCell hL)
  have HP : Hid (0 < w.heap.size) := World.block_lt_of_cell? w _ HM.out
  have S0 := hide w0
  clear hL w0
  by_cases h : len0 ≤ 65536
  · go_enter Tryd.func3, Tryd.ntmps3
    go_wp2_with (go_at_call 4; go_in)
    refine (clone_any a0 len0 cap0 z0 w S0.out (by omega)).mono ?_
    rintro e w1 ⟨A1, c1, rfl, ho1, hb1⟩
    have O1 := hide (SlIn.of_own ho1)
    have SH := hide (own_shape ho1)
    have B1 := hide hb1
    have M1 := hide (cellOn HM.out hb1 HP.out)
    have P1 : Hid (0 < w1.heap.size) := Nat.lt_of_lt_of_le HP.out hb1.size
    clear ho1 hb1
    go_wp2_with fail
    refine (new_any w1).mono ?_
    rintro e w2 ⟨rfl, hx2, b2, hs2⟩
    have X2 := hide hx2
    have B2 := hide b2
    have M2 := hide (cellOn M1.out b2 P1.out)
    have N2 : Hid (w1.heap.size ≤ w2.heap.size) := b2.size
    have O12 := hide ((O1.out.below b2 (Nat.le_refl _)).mono b2.size)
    clear hx2 b2 hs2
    go_wp2_with fail
    refine (pwrite (restOf w1.heap.size) w1.heap.size w1.heap.size none 0 0 [] A1 len0 c1 z0 w2 X2.out (World.ownsRow_nil _ _ _ _) N2.out O12.out M2.out (by omega)).mono ?_
    rintro e w3 ⟨rfl, hh3, ho3⟩
    have B13 : Hid (Below w1.heap.size w1 w3) := B2.out.trans (Told_below (World.ownsRow_nil _ _ _ _) N2.out (Nat.le_refl _) ho3 hh3)
    have H3 : Hid (Holds (restOf w1.heap.size) w1.heap.size 5 45 w1.heap.size len0 (z0.map bt) w3) := by
      have h := hh3
      rw [Nat.zero_add, List.nil_append] at h
      exact h
    have M3 := hide (cellOn M1.out B13.out P1.out)
    have P3 : Hid (0 < w3.heap.size) := Nat.lt_of_lt_of_le P1.out B13.out.size
    have O13 := hide ((O1.out.below B13.out (Nat.le_refl _)).mono B13.out.size)
    have Z1 : Hid (z0.length = len0) := O1.out.size
    clear hh3 ho3 O12 X2 M2
    go_wp2_with fail
    refine (new_any w3).mono ?_
    rintro e w4 ⟨rfl, hx4, b4, hs4⟩
    have X4 := hide hx4
    have B4 := hide b4
    have M4 := hide (cellOn M3.out b4 P3.out)
    have N4 : Hid (w3.heap.size ≤ w4.heap.size) := b4.size
    have hcv : (convert 22 9 (.slice A1 len0 c1)).run Tryd.prog w4 = .ok (.string ⟨z0.toArray⟩) w4 := conv_sl (O13.out.below b4 (Nat.le_refl _)) SH.out
    clear hx4 b4 hs4
    go_wp2_with fail
    clear hcv
    have hsz : (⟨z0.toArray⟩ : ByteArray).size = len0 := by
      show z0.toArray.size = len0
      simpa using Z1.out
    have HSZ := hide hsz
    clear hsz
    refine (pwriteString (restOf w3.heap.size) w3.heap.size w3.heap.size none 0 0 [] ⟨z0.toArray⟩ w4 X4.out (World.ownsRow_nil _ _ _ _) N4.out M4.out (by rw [HSZ.out]; omega)).mono ?_
    rw [HSZ.out]
    rintro e w5 ⟨rfl, hh5, ho5⟩
    have B35 : Hid (Below w3.heap.size w3 w5) := B4.out.trans (Told_below (World.ownsRow_nil _ _ _ _) N4.out (Nat.le_refl _) ho5 hh5)
    have H5 : Hid (Holds (restOf w3.heap.size) w3.heap.size 5 45 w3.heap.size len0 (z0.map bt) w5) := by
      have h := hh5
      rw [Nat.zero_add, List.nil_append] at h
      exact h
    have H15 := hide (Holds_below H3.out B35.out)
    have M5 := hide (cellOn M3.out B35.out P3.out)
    have P5 : Hid (0 < w5.heap.size) := Nat.lt_of_lt_of_le P3.out B35.out.size
    have O15 := hide ((O13.out.below B35.out (Nat.le_refl _)).mono B35.out.size)
    clear hh5 ho5 X4 M4 H3
    go_wp2_with fail
    refine (new_any w5).mono ?_
    rintro e w6 ⟨rfl, hx6, b6, hs6⟩
    have X6 := hide hx6
    have B6 := hide b6
    have M6 := hide (cellOn M5.out b6 P5.out)
    have N6 : Hid (w5.heap.size ≤ w6.heap.size) := b6.size
    clear hx6 b6 hs6
    go_wp2_with fail
    go_loopw [10] (fun ix wr => ∃ k : Nat, k ≤ len0 ∧ ix = .int .i64 k ∧ Hid (Holds (restOf w5.heap.size) w5.heap.size 5 45 w5.heap.size k ((z0.take k).map bt) wr) ∧ Hid (Below w5.heap.size w5 wr)) (fun ix _ => len0 - (intOf ix).toNat)
    case atStart => exact ⟨0, Nat.zero_le _, rfl, ⟨none, 0, X6.out, World.ownsRow_nil _ _ _ _⟩, B6.out⟩
    case round =>
      obtain ⟨k, hk, rfl, HH, HBw⟩ := hrel
      by_cases hlt : k < len0
      · obtain ⟨b, off, x, hA, hb, hx, hc⟩ := (O15.out.below HBw.out (Nat.le_refl _)).byte hlt
        subst hA
        obtain ⟨Ar, cr, hbr, hor⟩ := HH.out
        have XR := hide hbr
        have OR := hide hor
        have HXE : Hid ((z0.take k).map bt ++ [bt x] = (z0.take (k + 1)).map bt) := by
          show _ = _
          obtain ⟨hl, he⟩ := List.getElem?_eq_some_iff.1 hx
          rw [List.take_succ_eq_append_getElem hl, List.map_append, he]
          rfl
        clear hbr hor hx
        go_wp2_with (go_at_call 9; refine (pwriteByte (restOf w5.heap.size) w5.heap.size w5.heap.size Ar k cr ((z0.take k).map bt) x wr XR.out OR.out HBw.out.size (cellOn M5.out HBw.out P5.out) (by omega)).mono ?_; rintro e w' ⟨rfl, hh, ho⟩; have BN : Hid (Below w5.heap.size w5 w') := HBw.out.trans (Told_below OR.out HBw.out.size (Nat.le_refl _) ho hh); have HN : Hid (Holds (restOf w5.heap.size) w5.heap.size 5 45 w5.heap.size (k + 1) ((z0.take (k + 1)).map bt) w') := (by show Holds _ _ _ _ _ _ _ _; rw [← HXE.out]; exact hh); clear hh ho)
        go_roundw
        case rel => exact ⟨k + 1, by omega, by go_num, HN, BN⟩
        case measure => simp [intOf]; omega
      · obtain rfl : k = len0 := by omega
        obtain ⟨Ap, cp, hbp, hop⟩ := Holds_below H15.out HBw.out
        obtain ⟨Aq, cq, hbq, hoq⟩ := Holds_below H5.out HBw.out
        obtain ⟨Ar, cr, hbr, hor⟩ := HH.out
        rw [List.take_of_length_le (Nat.le_of_eq Z1.out)] at hor
        have xp := box_cell hbp
        have xq := box_cell hbq
        have xr := box_cell hbr
        have Y1 := hide (SlIn.of_own hop)
        have Y2 := hide (SlIn.of_own hoq)
        have Y3 := hide (SlIn.of_own hor)
        have hcv : (convert 22 9 (.slice A1 k c1)).run Tryd.prog wr = .ok (.string ⟨z0.toArray⟩) wr := conv_sl (O15.out.below HBw.out (Nat.le_refl _)) SH.out
        have BF : Hid (Below w.heap.size w wr) := B1.out.trans ((B13.out.trans ((B35.out.trans (HBw.out.mono B35.out.size)).mono B13.out.size)).mono B1.out.size)
        have hq1 : (z0 == (⟨z0.toArray⟩ : ByteArray).data.toList) = true := by simp
        clear hbp hop hbq hoq hbr hor
        have hsm : (⟨z0.toArray⟩ : ByteArray).size ≤ 65536 := by rw [HSZ.out]; omega
        have HSM := hide hsm
        clear hsm
        go_wp2_with (first | (go_at_call 11; go_in) | (go_at_call 10; refine (same_any _ _ _ z0 ⟨z0.toArray⟩ _ (by first | exact Y1.out | exact Y2.out | exact Y3.out | exact Y1.out.drewN _ | exact Y2.out.drewN _ | exact Y3.out.drewN _ | exact (Y3.out.drewN _).drewN _ | exact (Y2.out.drewN _).drewN _) (by omega) (by have := HSM.out; omega)).mono ?_; rintro e w' ⟨rfl, q, rfl⟩))
        go_ret
        exact ⟨by simp, by first | exact below_drewN BF.out _ | exact below_drewN (below_drewN BF.out _) _ | exact below_drewN (below_drewN (below_drewN BF.out _) _) _⟩
  · go_enter Tryd.func3, Tryd.ntmps3
    go_wp2_with (go_at_call 4; go_in)
    all_goals go_ret
    all_goals exact ⟨rfl, Below.refl _ _⟩
end Go.Proofs.YteladbeaecmceaaDoor.fnWriteAgreesWithOtherWriters
