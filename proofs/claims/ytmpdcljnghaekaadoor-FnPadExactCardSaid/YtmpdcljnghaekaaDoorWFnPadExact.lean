/- The law FnPadExact walked: the call returns true and writes nothing that was there. Its conditions: none beyond the arguments' types. -/
import Derived.Test.YtmpdcljnghaekaaDoorProg
import Derived.Test.YtmpdcljnghaekaaDoorBase
import Derived.Test.YtmpdcljnghaekaaDoorRows
import Derived.Handy
import Derived.Outline
import Derived.WalkLawsBesides
import Derived.WalkSpells
import Derived.Deep.QuietTactic
import Derived.BigQuiet
import Derived.RegionTactic
import Derived.ChangeAlike
import Derived.Test.YtmpdcljnghaekaaDoorLaid
import Derived.Test.YtmpdcljnghaekaaDoorModel
import Derived.Test.YtmpdcljnghaekaaDoorPadB
import Derived.Test.YtmpdcljnghaekaaDoorEq
import Derived.MakeChecks
namespace Go.Proofs.YtmpdcljnghaekaaDoor.fnPadExact
open Go.RowKit Go.Proofs.YtmpdcljnghaekaaDoor
theorem maxCell {w : World} (hL : laidMetH Tryd.prog Rows.fnPadExactRow.laid w) : w.cell? ⟨0, 0, none⟩ = some (.int .i64 2147483647) := by
  rw [MakeChecks.laidMetH_plain _ _ _ (by kernel_rfl)] at hL
  exact laid_int (t := 3) hL (n := "github.com/d5/tengo/v2.MaxStringLen") (by simp [Rows.fnPadExactRow, Rows.laid_github_com_d5_tengo_v2_MaxStringLen]) (by kernel_rfl) (by kernel_rfl) Tryd.underlying3
theorem zero49 (w : World) : (zeroValue 49).run Tryd.prog w = .ok (.agg #[.pointer none, .bool false, .bool false, .bool false, .bool false, .bool false, .bool false, .bool false, .bool false, .bool false, .bool false, .bool false, .bool false, .int .i64 0, .int .i64 0, .int .u8 0, .int .u8 0, .int .u8 0, .int .u8 0, .int .u8 0, .int .u8 0, .int .u8 0, .int .u8 0, .int .u8 0, .int .u8 0, .int .u8 0, .int .u8 0, .int .u8 0, .int .u8 0, .int .u8 0, .int .u8 0, .int .u8 0, .int .u8 0, .int .u8 0, .int .u8 0, .int .u8 0, .int .u8 0, .int .u8 0, .int .u8 0, .int .u8 0, .int .u8 0, .int .u8 0, .int .u8 0, .int .u8 0, .int .u8 0, .int .u8 0, .int .u8 0, .int .u8 0, .int .u8 0, .int .u8 0, .int .u8 0, .int .u8 0, .int .u8 0, .int .u8 0, .int .u8 0, .int .u8 0, .int .u8 0, .int .u8 0, .int .u8 0, .int .u8 0, .int .u8 0, .int .u8 0, .int .u8 0, .int .u8 0, .int .u8 0, .int .u8 0, .int .u8 0, .int .u8 0, .int .u8 0, .int .u8 0, .int .u8 0, .int .u8 0, .int .u8 0, .int .u8 0, .int .u8 0, .int .u8 0, .int .u8 0, .int .u8 0, .int .u8 0, .int .u8 0, .int .u8 0, .int .u8 0, .int .u8 0]) w := by kernel_rfl
attribute [local go_sem] zero49
theorem padding_nat (fb pb base n : Nat) (F : Array Value) (xs : List Value) (m : Nat) (z : Bool) (w : World) (h : Fm w fb pb base n F xs) (hz : F[7]? = some (.bool z)) (hM : w.cell? ⟨0, 0, none⟩ = some (.int .i64 2147483647)) (hn : n ≤ 4194304) (hk : m ≤ 4194304) (hone : ∀ v ∈ xs, v.oneCell' = true) :
    Calls Tryd.prog 36 #[.pointer (some ⟨fb, 0, none⟩), .int .i64 (m : Int)] w (Padded fb pb base (n + m) F (xs ++ padL z m) w) :=
  padding_any fb pb base n F xs m z w h hz hM hn (by omega) (by omega) hone
theorem padL_map (z : Bool) (m : Nat) : padL z m = (List.replicate m (pby z)).map bt := by simp [padL]
theorem padL_one (z : Bool) (xs : List UInt8) (m : Nat) : ∀ v ∈ xs.map bt ++ padL z m, v.oneCell' = true := by
  rw [padL_map, ← List.map_append]
  exact bts_one _
theorem own_shape {w : World} {base E n c : Nat} {A : Option Addr} {xs : List Value} (h : w.ownsRow base E 1 (.slice A n c) n xs) : A = none ∨ ∃ b off, A = some ⟨b, off, none⟩ := by
  rcases h.2 with ⟨h', _⟩ | ⟨g, cap, cur, h', _⟩
  · simp only [Value.slice.injEq] at h'; exact .inl h'.1
  · simp only [Value.slice.injEq] at h'; exact .inr ⟨g, 0, h'.1⟩
theorem conv_nil (w : World) : (convert 22 9 (.slice none 0 0)).run Tryd.prog w = .ok (.string ⟨#[]⟩) w := by kernel_rfl
theorem conv_sl {w : World} {B n c : Nat} {A : Option Addr} {zs : List UInt8} (h : SlIn w B A n c (zs.map bt)) (hA : A = none ∨ ∃ b off, A = some ⟨b, off, none⟩) : (convert 22 9 (.slice A n c)).run Tryd.prog w = .ok (.string ⟨zs.toArray⟩) w := by
  rcases hA with rfl | ⟨b, off, rfl⟩
  · obtain ⟨rfl, rfl⟩ := h.isNil rfl
    obtain rfl : zs = [] := List.eq_nil_of_length_eq_zero h.size
    exact conv_nil w
  · rw [← h.size]
    exact run_convert_bytes_back (P := Tryd.prog) w 22 9 5 ⟨b, off, none⟩ c zs Tryd.underlying22 Tryd.underlying5 Tryd.underlying9 (fun j hj => by
      obtain ⟨b', off', e, _, hc⟩ := h.cells j (bt zs[j]) (by rw [List.getElem?_map, List.getElem?_eq_getElem hj]; rfl)
      simp only [Option.some.injEq, Addr.mk.injEq, and_true] at e
      obtain ⟨rfl, rfl⟩ := e
      have e2 : (⟨b, off, none⟩ : Addr).add j = ⟨b, off + j, none⟩ := by
        by_cases hj0 : j = 0 <;> simp [Addr.add, hj0]
      rw [e2]
      exact hc)
set_option linter.unusedVariables false in
set_option maxRecDepth 100000 in
set_option maxHeartbeats 16000000 in
theorem walk (a0 : Option Addr) (len0 cap0 : Nat) (z0 : List UInt8) (a1 : Option Addr) (len1 cap1 : Nat) (z1 : List UInt8) (a2 : Bool) (a3 : Int) (a4 : Bool) (a5 : Bool) (w : World) (w0 : SlIn w w.heap.size a0 len0 cap0 (z0.map bt)) (w1 : SlIn w w.heap.size a1 len1 cap1 (z1.map bt)) (w3 : (Lit.int .i64 a3).wf = true) (hL : laidMetH Tryd.prog Rows.fnPadExactRow.laid w) :
    Calls Tryd.prog 5 #[.slice a0 len0 cap0, .slice a1 len1 cap1, .bool a2, .int .i64 a3, .bool a4, .bool a5] w fun e w' => e = .returned (.bool true) ∧ Below w.heap.size w w' := by
  have t0 := w0.top
  have l0 := w0.le
  have t1 := w1.top
  have l1 := w1.le
  unfold maxLen at t0 t1
  have hw3 := bounds_i64 w3
  have HM := hide (maxCell hL)
  have HP : Hid (0 < w.heap.size) := World.block_lt_of_cell? w _ HM.out
  have S0 := hide w0
  have S1 := hide w1
  clear hL w0 w1 w3
  by_cases h : len0 + len1 ≤ 1048576
  · by_cases h1 : -65536 ≤ a3 ∧ a3 ≤ 65536
    · obtain ⟨h11, h12⟩ := h1
      go_enter Tryd.func5, Tryd.ntmps5
      go_wp2_with (go_at_call 22; go_in)
      refine (clone_any a0 len0 cap0 z0 w S0.out (by omega)).mono ?_
      rintro e w1 ⟨A1, c1, rfl, ho1, hb1⟩
      have O1 := hide (SlIn.of_own ho1)
      have B1 := hide hb1
      have M1 := hide (cellOn HM.out hb1 HP.out)
      have P1 : Hid (0 < w1.heap.size) := Nat.lt_of_lt_of_le HP.out hb1.size
      have S11 := hide ((S1.out.below hb1 (Nat.le_refl _)).mono hb1.size)
      clear ho1 hb1
      go_wp2_with fail
      refine (clone_any a1 len1 cap1 z1 w1 S11.out (by omega)).mono ?_
      rintro e w2 ⟨A2, c2, rfl, ho2, hb2⟩
      have O2 := hide (SlIn.of_own ho2)
      have SH := hide (own_shape ho2)
      have B2 := hide hb2
      have M2 := hide (cellOn M1.out hb2 P1.out)
      have P2 : Hid (0 < w2.heap.size) := Nat.lt_of_lt_of_le P1.out hb2.size
      have O12 := hide ((O1.out.below hb2 (Nat.le_refl _)).mono hb2.size)
      have hcv : (convert 22 9 (.slice A2 len1 c2)).run Tryd.prog w2 = .ok (.string ⟨z1.toArray⟩) w2 := conv_sl O2.out SH.out
      clear ho2 hb2
      go_wp2_with fail
      clear hcv
      have hsz : (⟨z1.toArray⟩ : ByteArray).size = len1 := by
        show z1.toArray.size = len1
        simpa using O2.out.size
      have HSZ := hide hsz
      have hrc := Lib.runeCount_le ⟨z1.toArray⟩
      rw [hsz] at hrc
      clear hsz
      refine (model_any A1 len0 c1 z0 ⟨z1.toArray⟩ a2 a4 a5 a3 w2 O12.out (by omega) (by rw [HSZ.out]; omega) h11 h12).mono ?_
      rintro e w3 ⟨A3, c3, rfl, ho3, hb3⟩
      have O3w := hide (SlIn.of_own ho3)
      have B3w := hide hb3
      have M3 := hide (cellOn M2.out hb3 P2.out)
      have P3 : Hid (0 < w3.heap.size) := Nat.lt_of_lt_of_le P2.out hb3.size
      have O13 := hide ((O12.out.below hb3 (Nat.le_refl _)).mono hb3.size)
      have O23 := hide ((O2.out.below hb3 (Nat.le_refl _)).mono hb3.size)
      clear ho3 hb3
      go_wp2_with fail
      refine (clone_any A1 len0 c1 z0 w3 O13.out (by omega)).mono ?_
      rintro e w4 ⟨A4, c4, rfl, ho4, hb4⟩
      have O4 := hide ho4
      have B4 := hide hb4
      clear ho4 hb4
      go_wp2_with (first | (go_at_call 13; go_in) | (go_at_call 31; go_in) | (go_at_call 33; go_in) | (go_at_call 14; go_in) | (go_at_call 15; go_in) | (go_at_call 23; go_in) | (go_at_call 16; go_in))
      have FM4 := hide (Fm.new O4.out B4.out.size (F := #[.pointer (some ⟨w4.heap.size, 0, none⟩), .bool a2, .bool false, .bool a4, .bool false, .bool false, .bool false, .bool a5, .bool false, .bool false, .bool false, .bool false, .bool false, .int .i64 a3, .int .i64 0, .int .u8 0, .int .u8 0, .int .u8 0, .int .u8 0, .int .u8 0, .int .u8 0, .int .u8 0, .int .u8 0, .int .u8 0, .int .u8 0, .int .u8 0, .int .u8 0, .int .u8 0, .int .u8 0, .int .u8 0, .int .u8 0, .int .u8 0, .int .u8 0, .int .u8 0, .int .u8 0, .int .u8 0, .int .u8 0, .int .u8 0, .int .u8 0, .int .u8 0, .int .u8 0, .int .u8 0, .int .u8 0, .int .u8 0, .int .u8 0, .int .u8 0, .int .u8 0, .int .u8 0, .int .u8 0, .int .u8 0, .int .u8 0, .int .u8 0, .int .u8 0, .int .u8 0, .int .u8 0, .int .u8 0, .int .u8 0, .int .u8 0, .int .u8 0, .int .u8 0, .int .u8 0, .int .u8 0, .int .u8 0, .int .u8 0, .int .u8 0, .int .u8 0, .int .u8 0, .int .u8 0, .int .u8 0, .int .u8 0, .int .u8 0, .int .u8 0, .int .u8 0, .int .u8 0, .int .u8 0, .int .u8 0, .int .u8 0, .int .u8 0, .int .u8 0, .int .u8 0, .int .u8 0, .int .u8 0, .int .u8 0]) rfl)
      have BW4 : Hid (Below w4.heap.size w4 _) := (((Below.refl w4.heap.size w4).alloc (Nat.le_refl _) (.cells #[.slice A4 len0 c4] 43)).alloc (by simp) (.cells #[.pointer (some ⟨w4.heap.size, 0, none⟩), .bool a2, .bool false, .bool a4, .bool false, .bool false, .bool false, .bool a5, .bool false, .bool false, .bool false, .bool false, .bool false, .int .i64 a3, .int .i64 0, .int .u8 0, .int .u8 0, .int .u8 0, .int .u8 0, .int .u8 0, .int .u8 0, .int .u8 0, .int .u8 0, .int .u8 0, .int .u8 0, .int .u8 0, .int .u8 0, .int .u8 0, .int .u8 0, .int .u8 0, .int .u8 0, .int .u8 0, .int .u8 0, .int .u8 0, .int .u8 0, .int .u8 0, .int .u8 0, .int .u8 0, .int .u8 0, .int .u8 0, .int .u8 0, .int .u8 0, .int .u8 0, .int .u8 0, .int .u8 0, .int .u8 0, .int .u8 0, .int .u8 0, .int .u8 0, .int .u8 0, .int .u8 0, .int .u8 0, .int .u8 0, .int .u8 0, .int .u8 0, .int .u8 0, .int .u8 0, .int .u8 0, .int .u8 0, .int .u8 0, .int .u8 0, .int .u8 0, .int .u8 0, .int .u8 0, .int .u8 0, .int .u8 0, .int .u8 0, .int .u8 0, .int .u8 0, .int .u8 0, .int .u8 0, .int .u8 0, .int .u8 0, .int .u8 0, .int .u8 0, .int .u8 0, .int .u8 0, .int .u8 0, .int .u8 0, .int .u8 0, .int .u8 0, .int .u8 0, .int .u8 0] 49))
      obtain ⟨W4, hW⟩ : ∃ W4 : World, W4 = (w4.alloc (.cells #[.slice A4 len0 c4] 43)).alloc (.cells #[.pointer (some ⟨w4.heap.size, 0, none⟩), .bool a2, .bool false, .bool a4, .bool false, .bool false, .bool false, .bool a5, .bool false, .bool false, .bool false, .bool false, .bool false, .int .i64 a3, .int .i64 0, .int .u8 0, .int .u8 0, .int .u8 0, .int .u8 0, .int .u8 0, .int .u8 0, .int .u8 0, .int .u8 0, .int .u8 0, .int .u8 0, .int .u8 0, .int .u8 0, .int .u8 0, .int .u8 0, .int .u8 0, .int .u8 0, .int .u8 0, .int .u8 0, .int .u8 0, .int .u8 0, .int .u8 0, .int .u8 0, .int .u8 0, .int .u8 0, .int .u8 0, .int .u8 0, .int .u8 0, .int .u8 0, .int .u8 0, .int .u8 0, .int .u8 0, .int .u8 0, .int .u8 0, .int .u8 0, .int .u8 0, .int .u8 0, .int .u8 0, .int .u8 0, .int .u8 0, .int .u8 0, .int .u8 0, .int .u8 0, .int .u8 0, .int .u8 0, .int .u8 0, .int .u8 0, .int .u8 0, .int .u8 0, .int .u8 0, .int .u8 0, .int .u8 0, .int .u8 0, .int .u8 0, .int .u8 0, .int .u8 0, .int .u8 0, .int .u8 0, .int .u8 0, .int .u8 0, .int .u8 0, .int .u8 0, .int .u8 0, .int .u8 0, .int .u8 0, .int .u8 0, .int .u8 0, .int .u8 0, .int .u8 0] 49) := ⟨_, rfl⟩
      rw [← hW] at FM4 BW4 ⊢
      clear hW
      have B34 : Hid (Below w3.heap.size w3 W4) := B4.out.trans (BW4.out.mono B4.out.size)
      refine (pad_any _ _ _ len0 _ (z0.map bt) A2 len1 c2 z1 a2 a4 a5 a3 W4 FM4.out rfl rfl rfl rfl (cellOn M3.out B34.out P3.out) P3.out (by omega) (O23.out.below B34.out (Nat.le_refl _)) SH.out (by omega) (by omega) (by omega) (bts_one z0)).mono ?_
      rintro e w5 ⟨rfl, fm5, b5⟩
      have FM5 := hide fm5
      have B35 : Hid (Below w3.heap.size w3 w5) := B34.out.trans b5
      have g1 := FM5.out.cell FM5.out.ptr
      obtain ⟨Ax, cx, hbx, hox⟩ := FM5.out.holds
      have x1 := cell_of_one hbx
      obtain ⟨L, hL⟩ : ∃ L : List UInt8, z0.map bt ++ inField a4 a5 (room a2 a3 (Lib.runeCount ⟨z1.toArray⟩)) (z1.map bt) = L.map bt := by
        cases a4
        · exact ⟨z0 ++ (List.replicate _ (pby a5) ++ z1), by simp only [inField, padL_map, List.map_append]; rfl⟩
        · exact ⟨z0 ++ (z1 ++ List.replicate _ (pby a5)), by simp only [inField, padL_map, List.map_append]; rfl⟩
      have SX := hide (SlIn.of_own hox)
      have SY : Hid (SlIn w5 w5.heap.size A3 (len0 + (room a2 a3 (Lib.runeCount ⟨z1.toArray⟩) + (⟨z1.toArray⟩ : ByteArray).size)) c3 (L.map bt)) := by
        show SlIn _ _ _ _ _ _
        rw [← hL]
        exact (O3w.out.below B35.out (Nat.le_refl _)).mono B35.out.size
      rw [hL] at SX
      have hrm : room a2 a3 (Lib.runeCount ⟨z1.toArray⟩) ≤ 65536 := by
        unfold room
        split <;> omega
      clear fm5 b5 hbx hox hL
      have hs2 : (⟨z1.toArray⟩ : ByteArray).size ≤ 1048576 := by rw [HSZ.out]; omega
      go_wp2_with (go_at_call 18; go_in)
      refine (eq_any Ax A3 _ cx _ c3 L L _ (by first | exact SX.out | exact SX.out.drew | exact SX.out.drewN _) (by first | exact SY.out | exact SY.out.drew | exact SY.out.drewN _) (by omega) (by have h1 := HSZ.out; have h2 := O2.out.size; omega)).mono ?_
      rintro e w7 ⟨rfl, q, rfl⟩
      have hbb : (L == L) = true := by simp
      go_wp2
      go_ret
      refine ⟨by simp, ?_⟩
      have BF := B1.out.trans ((B2.out.mono B1.out.size).trans ((B3w.out.trans (B35.out.mono B3w.out.size)).mono (Nat.le_trans B1.out.size B2.out.size)))
      first | exact below_drewN BF _ | exact below_drewN BF.drew _ | exact below_drewN (below_drewN BF _) _
    · go_enter Tryd.func5, Tryd.ntmps5
      go_wp2
      all_goals go_ret
      all_goals exact ⟨rfl, Below.refl _ _⟩
  · go_enter Tryd.func5, Tryd.ntmps5
    go_wp2
    all_goals go_ret
    all_goals exact ⟨rfl, Below.refl _ _⟩
end Go.Proofs.YtmpdcljnghaekaaDoor.fnPadExact
