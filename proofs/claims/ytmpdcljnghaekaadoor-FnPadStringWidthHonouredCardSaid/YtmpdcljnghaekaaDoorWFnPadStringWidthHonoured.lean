/- The law FnPadStringWidthHonoured walked: the call returns true and writes nothing that was there. Its conditions: none beyond the arguments' types. -/
import Derived.Test.YtmpdcljnghaekaaDoorProg
import Derived.Test.YtmpdcljnghaekaaDoorBase
import Derived.Test.YtmpdcljnghaekaaDoorRows
import Derived.Handy
import Derived.Outline
import Derived.WalkLawsBesides
import Derived.WalkSpells
import Derived.Deep.QuietTactic
import Derived.BigQuiet
import Derived.RegionTactic
import Derived.ChangeAlike
import Derived.Test.YtmpdcljnghaekaaDoorLaid
import Derived.Test.YtmpdcljnghaekaaDoorField
import Derived.Test.YtmpdcljnghaekaaDoorPadS
import Derived.Test.YtmpdcljnghaekaaDoorEq
import Derived.MakeChecks
namespace Go.Proofs.YtmpdcljnghaekaaDoor.fnPadStringWidthHonoured
open Go.RowKit Go.Proofs.YtmpdcljnghaekaaDoor
theorem maxCell {w : World} (hL : laidMetH Tryd.prog Rows.fnPadStringWidthHonouredRow.laid w) : w.cell? ⟨0, 0, none⟩ = some (.int .i64 2147483647) := by
  rw [MakeChecks.laidMetH_plain _ _ _ (by kernel_rfl)] at hL
  exact laid_int (t := 3) hL (n := "github.com/d5/tengo/v2.MaxStringLen") (by simp [Rows.fnPadStringWidthHonouredRow, Rows.laid_github_com_d5_tengo_v2_MaxStringLen]) (by kernel_rfl) (by kernel_rfl) Tryd.underlying3
theorem zero49 (w : World) : (zeroValue 49).run Tryd.prog w = .ok (.agg #[.pointer none, .bool false, .bool false, .bool false, .bool false, .bool false, .bool false, .bool false, .bool false, .bool false, .bool false, .bool false, .bool false, .int .i64 0, .int .i64 0, .int .u8 0, .int .u8 0, .int .u8 0, .int .u8 0, .int .u8 0, .int .u8 0, .int .u8 0, .int .u8 0, .int .u8 0, .int .u8 0, .int .u8 0, .int .u8 0, .int .u8 0, .int .u8 0, .int .u8 0, .int .u8 0, .int .u8 0, .int .u8 0, .int .u8 0, .int .u8 0, .int .u8 0, .int .u8 0, .int .u8 0, .int .u8 0, .int .u8 0, .int .u8 0, .int .u8 0, .int .u8 0, .int .u8 0, .int .u8 0, .int .u8 0, .int .u8 0, .int .u8 0, .int .u8 0, .int .u8 0, .int .u8 0, .int .u8 0, .int .u8 0, .int .u8 0, .int .u8 0, .int .u8 0, .int .u8 0, .int .u8 0, .int .u8 0, .int .u8 0, .int .u8 0, .int .u8 0, .int .u8 0, .int .u8 0, .int .u8 0, .int .u8 0, .int .u8 0, .int .u8 0, .int .u8 0, .int .u8 0, .int .u8 0, .int .u8 0, .int .u8 0, .int .u8 0, .int .u8 0, .int .u8 0, .int .u8 0, .int .u8 0, .int .u8 0, .int .u8 0, .int .u8 0, .int .u8 0, .int .u8 0]) w := by kernel_rfl
attribute [local go_sem] zero49
theorem padding_nat (fb pb base n : Nat) (F : Array Value) (xs : List Value) (m : Nat) (z : Bool) (w : World) (h : Fm w fb pb base n F xs) (hz : F[7]? = some (.bool z)) (hM : w.cell? ⟨0, 0, none⟩ = some (.int .i64 2147483647)) (hn : n ≤ 4194304) (hk : m ≤ 4194304) (hone : ∀ v ∈ xs, v.oneCell' = true) :
    Calls Tryd.prog 36 #[.pointer (some ⟨fb, 0, none⟩), .int .i64 (m : Int)] w (Padded fb pb base (n + m) F (xs ++ padL z m) w) :=
  padding_any fb pb base n F xs m z w h hz hM hn (by omega) (by omega) hone
theorem padL_map (z : Bool) (m : Nat) : padL z m = (List.replicate m (pby z)).map bt := by simp [padL]
theorem padL_one (z : Bool) (xs : List UInt8) (m : Nat) : ∀ v ∈ xs.map bt ++ padL z m, v.oneCell' = true := by
  rw [padL_map, ← List.map_append]
  exact bts_one _
theorem own_shape {w : World} {base E n c : Nat} {A : Option Addr} {xs : List Value} (h : w.ownsRow base E 1 (.slice A n c) n xs) : A = none ∨ ∃ b off, A = some ⟨b, off, none⟩ := by
  rcases h.2 with ⟨h', _⟩ | ⟨g, cap, cur, h', _⟩
  · simp only [Value.slice.injEq] at h'; exact .inl h'.1
  · simp only [Value.slice.injEq] at h'; exact .inr ⟨g, 0, h'.1⟩
theorem conv_nil (w : World) : (convert 22 9 (.slice none 0 0)).run Tryd.prog w = .ok (.string ⟨#[]⟩) w := by kernel_rfl
theorem conv_sl {w : World} {B n c : Nat} {A : Option Addr} {zs : List UInt8} (h : SlIn w B A n c (zs.map bt)) (hA : A = none ∨ ∃ b off, A = some ⟨b, off, none⟩) : (convert 22 9 (.slice A n c)).run Tryd.prog w = .ok (.string ⟨zs.toArray⟩) w := by
  rcases hA with rfl | ⟨b, off, rfl⟩
  · obtain ⟨rfl, rfl⟩ := h.isNil rfl
    obtain rfl : zs = [] := List.eq_nil_of_length_eq_zero h.size
    exact conv_nil w
  · rw [← h.size]
    exact run_convert_bytes_back (P := Tryd.prog) w 22 9 5 ⟨b, off, none⟩ c zs Tryd.underlying22 Tryd.underlying5 Tryd.underlying9 (fun j hj => by
      obtain ⟨b', off', e, _, hc⟩ := h.cells j (bt zs[j]) (by rw [List.getElem?_map, List.getElem?_eq_getElem hj]; rfl)
      simp only [Option.some.injEq, Addr.mk.injEq, and_true] at e
      obtain ⟨rfl, rfl⟩ := e
      have e2 : (⟨b, off, none⟩ : Addr).add j = ⟨b, off + j, none⟩ := by
        by_cases hj0 : j = 0 <;> simp [Addr.add, hj0]
      rw [e2]
      exact hc)
set_option linter.unusedVariables false in
set_option maxRecDepth 100000 in
set_option maxHeartbeats 16000000 in
theorem walk (a0 : Option Addr) (len0 cap0 : Nat) (z0 : List UInt8) (a1 : ByteArray) (a2 : Bool) (a3 : Int) (a4 : Bool) (a5 : Bool) (w : World) (w0 : SlIn w w.heap.size a0 len0 cap0 (z0.map bt)) (w1 : a1.size ≤ maxLen) (w3 : (Lit.int .i64 a3).wf = true) (hL : laidMetH Tryd.prog Rows.fnPadStringWidthHonouredRow.laid w) :
    Calls Tryd.prog 8 #[.slice a0 len0 cap0, .string a1, .bool a2, .int .i64 a3, .bool a4, .bool a5] w fun e w' => e = .returned (.bool true) ∧ Below w.heap.size w w' := by
  have t0 := w0.top
  have l0 := w0.le
  unfold maxLen at t0 w1
  have hw3 := bounds_i64 w3
  have HM := hide (maxCell hL)
  have HP : Hid (0 < w.heap.size) := World.block_lt_of_cell? w _ HM.out
  have S0 := hide w0
  clear hL w0 w3
  by_cases h : len0 + a1.size ≤ 1048576
  · by_cases h1 : -65536 ≤ a3 ∧ a3 ≤ 65536
    · obtain ⟨h11, h12⟩ := h1
      go_enter Tryd.func8, Tryd.ntmps8
      go_wp2_with (go_at_call 28; go_in)
      refine (clone_any a0 len0 cap0 z0 w S0.out (by omega)).mono ?_
      rintro e w1 ⟨A1, c1, rfl, ho1, hb1⟩
      have O1 := hide (SlIn.of_own ho1)
      have B1 := hide hb1
      have M1 := hide (cellOn HM.out hb1 HP.out)
      have P1 : Hid (0 < w1.heap.size) := Nat.lt_of_lt_of_le HP.out hb1.size
      clear ho1 hb1
      go_wp2_with fail
      refine (clone_any A1 len0 c1 z0 w1 O1.out (by omega)).mono ?_
      rintro e w2 ⟨A2, c2, rfl, ho2, hb2⟩
      have O2 := hide ho2
      have B2 := hide hb2
      clear ho2 hb2
      go_wp2_with (first | (go_at_call 13; go_in) | (go_at_call 31; go_in) | (go_at_call 33; go_in) | (go_at_call 14; go_in) | (go_at_call 15; go_in) | (go_at_call 23; go_in) | (go_at_call 16; go_in))
      have FM2 := hide (Fm.new O2.out B2.out.size (F := #[.pointer (some ⟨w2.heap.size, 0, none⟩), .bool a2, .bool false, .bool a4, .bool false, .bool false, .bool false, .bool a5, .bool false, .bool false, .bool false, .bool false, .bool false, .int .i64 a3, .int .i64 0, .int .u8 0, .int .u8 0, .int .u8 0, .int .u8 0, .int .u8 0, .int .u8 0, .int .u8 0, .int .u8 0, .int .u8 0, .int .u8 0, .int .u8 0, .int .u8 0, .int .u8 0, .int .u8 0, .int .u8 0, .int .u8 0, .int .u8 0, .int .u8 0, .int .u8 0, .int .u8 0, .int .u8 0, .int .u8 0, .int .u8 0, .int .u8 0, .int .u8 0, .int .u8 0, .int .u8 0, .int .u8 0, .int .u8 0, .int .u8 0, .int .u8 0, .int .u8 0, .int .u8 0, .int .u8 0, .int .u8 0, .int .u8 0, .int .u8 0, .int .u8 0, .int .u8 0, .int .u8 0, .int .u8 0, .int .u8 0, .int .u8 0, .int .u8 0, .int .u8 0, .int .u8 0, .int .u8 0, .int .u8 0, .int .u8 0, .int .u8 0, .int .u8 0, .int .u8 0, .int .u8 0, .int .u8 0, .int .u8 0, .int .u8 0, .int .u8 0, .int .u8 0, .int .u8 0, .int .u8 0, .int .u8 0, .int .u8 0, .int .u8 0, .int .u8 0, .int .u8 0, .int .u8 0, .int .u8 0, .int .u8 0]) rfl)
      have BW2 : Hid (Below w2.heap.size w2 _) := (((Below.refl w2.heap.size w2).alloc (Nat.le_refl _) (.cells #[.slice A2 len0 c2] 43)).alloc (by simp) (.cells #[.pointer (some ⟨w2.heap.size, 0, none⟩), .bool a2, .bool false, .bool a4, .bool false, .bool false, .bool false, .bool a5, .bool false, .bool false, .bool false, .bool false, .bool false, .int .i64 a3, .int .i64 0, .int .u8 0, .int .u8 0, .int .u8 0, .int .u8 0, .int .u8 0, .int .u8 0, .int .u8 0, .int .u8 0, .int .u8 0, .int .u8 0, .int .u8 0, .int .u8 0, .int .u8 0, .int .u8 0, .int .u8 0, .int .u8 0, .int .u8 0, .int .u8 0, .int .u8 0, .int .u8 0, .int .u8 0, .int .u8 0, .int .u8 0, .int .u8 0, .int .u8 0, .int .u8 0, .int .u8 0, .int .u8 0, .int .u8 0, .int .u8 0, .int .u8 0, .int .u8 0, .int .u8 0, .int .u8 0, .int .u8 0, .int .u8 0, .int .u8 0, .int .u8 0, .int .u8 0, .int .u8 0, .int .u8 0, .int .u8 0, .int .u8 0, .int .u8 0, .int .u8 0, .int .u8 0, .int .u8 0, .int .u8 0, .int .u8 0, .int .u8 0, .int .u8 0, .int .u8 0, .int .u8 0, .int .u8 0, .int .u8 0, .int .u8 0, .int .u8 0, .int .u8 0, .int .u8 0, .int .u8 0, .int .u8 0, .int .u8 0, .int .u8 0, .int .u8 0, .int .u8 0, .int .u8 0, .int .u8 0, .int .u8 0] 49))
      obtain ⟨W2, hW⟩ : ∃ W2 : World, W2 = (w2.alloc (.cells #[.slice A2 len0 c2] 43)).alloc (.cells #[.pointer (some ⟨w2.heap.size, 0, none⟩), .bool a2, .bool false, .bool a4, .bool false, .bool false, .bool false, .bool a5, .bool false, .bool false, .bool false, .bool false, .bool false, .int .i64 a3, .int .i64 0, .int .u8 0, .int .u8 0, .int .u8 0, .int .u8 0, .int .u8 0, .int .u8 0, .int .u8 0, .int .u8 0, .int .u8 0, .int .u8 0, .int .u8 0, .int .u8 0, .int .u8 0, .int .u8 0, .int .u8 0, .int .u8 0, .int .u8 0, .int .u8 0, .int .u8 0, .int .u8 0, .int .u8 0, .int .u8 0, .int .u8 0, .int .u8 0, .int .u8 0, .int .u8 0, .int .u8 0, .int .u8 0, .int .u8 0, .int .u8 0, .int .u8 0, .int .u8 0, .int .u8 0, .int .u8 0, .int .u8 0, .int .u8 0, .int .u8 0, .int .u8 0, .int .u8 0, .int .u8 0, .int .u8 0, .int .u8 0, .int .u8 0, .int .u8 0, .int .u8 0, .int .u8 0, .int .u8 0, .int .u8 0, .int .u8 0, .int .u8 0, .int .u8 0, .int .u8 0, .int .u8 0, .int .u8 0, .int .u8 0, .int .u8 0, .int .u8 0, .int .u8 0, .int .u8 0, .int .u8 0, .int .u8 0, .int .u8 0, .int .u8 0, .int .u8 0, .int .u8 0, .int .u8 0, .int .u8 0, .int .u8 0] 49) := ⟨_, rfl⟩
      rw [← hW] at FM2 BW2 ⊢
      clear hW
      have B12 : Hid (Below w1.heap.size w1 W2) := B2.out.trans (BW2.out.mono B2.out.size)
      refine (padString_any _ _ _ len0 _ (z0.map bt) a1 a2 a4 a5 a3 W2 FM2.out rfl rfl rfl rfl (cellOn M1.out B12.out P1.out) P1.out (by omega) (by omega) (by omega) (by omega) (bts_one z0)).mono ?_
      rintro e w4 ⟨rfl, fm4, b4⟩
      have FM4 := hide fm4
      have B14 : Hid (Below w1.heap.size w1 w4) := B12.out.trans b4
      have g1 := FM4.out.cell FM4.out.ptr
      obtain ⟨Ax, cx, hbx, hox⟩ := FM4.out.holds
      have x1 := cell_of_one hbx
      have hrc := Lib.runeCount_le a1
      obtain ⟨T, hT, hTl, hTc⟩ := field_runes a4 a5 (room a2 a3 (Lib.runeCount a1)) a1
      have SX := hide (SlIn.of_own hox)
      rw [hT, ← List.map_append] at SX
      have hrm : room a2 a3 (Lib.runeCount a1) ≤ 65536 := by
        unfold room
        split <;> omega
      have HTC : Hid (Lib.runeCount ⟨T.toArray⟩ = want a2 a3 (Lib.runeCount a1)) := by
        show Lib.runeCount ⟨T.toArray⟩ = _
        rw [hTc]
        exact want_room a2 a3 _
      have HTL := hide hTl
      have SY := hide ((O1.out.below B14.out (Nat.le_refl _)).mono B14.out.size)
      have SP := hide (SX.out.pre (k := len0) (by omega))
      rw [← List.map_take, List.take_left' O1.out.size] at SP
      have SC0 := hide (SX.out.cut (k := len0) (by omega))
      rw [← List.map_drop, List.drop_left' O1.out.size] at SC0
      have SHX := hide (own_shape hox)
      have hxle := SX.out.le
      clear fm4 b4 hbx hox hT hTl hTc
      generalize room a2 a3 (Lib.runeCount a1) = rr at *
      go_wp2_with (go_at_call 18; go_in)
      refine (eq_any Ax A1 len0 cx len0 c1 z0 z0 w4 SP.out SY.out (by omega) (by omega)).mono ?_
      rintro e w5 ⟨rfl, q, hq⟩
      have HQ := hide hq
      clear hq
      have hbb : (z0 == z0) = true := by simp
      have SC : Hid (SlIn w5 w5.heap.size (if cx = len0 then Ax else Ax.map (·.add len0)) (rr + a1.size) (cx - len0) (T.map bt)) := by
        show SlIn _ _ _ _ _ _
        rw [HQ.out]
        have h := SC0.out.drewN q
        rw [Nat.add_sub_cancel_left] at h
        exact h
      have BF : Hid (Below w.heap.size w w5) := by
        show Below _ _ _
        rw [HQ.out]
        exact below_drewN (B1.out.trans (B14.out.mono B1.out.size)) _
      have RC1 : Hid (∀ w, Calls Tryd.prog 29 #[.string a1] w fun e w' => e = .returned (.int .i64 (Lib.runeCount a1 : Nat)) ∧ w = w') := fun w => zzCount_any a1 w (by omega)
      have RC2 : Hid (∀ w, Calls Tryd.prog 29 #[.string ⟨T.toArray⟩] w fun e w' => e = .returned (.int .i64 (want a2 a3 (Lib.runeCount a1) : Nat)) ∧ w = w') := fun w => HTC.out ▸ zzCount_any ⟨T.toArray⟩ w (by show T.toArray.size ≤ _; have := HTL.out; simp; omega)
      clear HTC FM4 SX SC0 SP
      generalize Lib.runeCount a1 = rc at RC1 RC2 hrc
      cases a2
      · rw [show want false a3 rc = rc by simp [want]] at RC2
        by_cases hc : cx = len0
        · have hcv : (convert 22 9 (.slice Ax (rr + a1.size) 0)).run Tryd.prog w5 = .ok (.string ⟨T.toArray⟩) w5 := by
            have h := SC.out
            rw [if_pos hc, show cx - len0 = 0 by omega] at h
            exact conv_sl h SHX.out
          go_wp2_with (first | (go_at_call 29; with_reducible refine (RC1.out _).mono ?_; rintro e w' ⟨rfl, rfl⟩) | (go_at_call 29; with_reducible refine (RC2.out _).mono ?_; rintro e w' ⟨rfl, rfl⟩))
          go_ret
          exact ⟨by simp, BF.out⟩
        · have hcv : (convert 22 9 (.slice (Ax.map (·.add len0)) (rr + a1.size) (cx - len0))).run Tryd.prog w5 = .ok (.string ⟨T.toArray⟩) w5 := by
            have h := SC.out
            rw [if_neg hc] at h
            refine conv_sl h ?_
            rcases SHX.out with e | ⟨b, off, e⟩
            · exact .inl (by rw [e]; rfl)
            · exact .inr ⟨b, off + len0, by rw [e]; simp [Addr.add_lit]⟩
          go_wp2_with (first | (go_at_call 29; with_reducible refine (RC1.out _).mono ?_; rintro e w' ⟨rfl, rfl⟩) | (go_at_call 29; with_reducible refine (RC2.out _).mono ?_; rintro e w' ⟨rfl, rfl⟩))
          go_ret
          exact ⟨by simp, BF.out⟩
      · by_cases hw0 : a3 = 0
        · subst hw0
          rw [show want true 0 rc = rc by simp [want]] at RC2
          by_cases hc : cx = len0
          · have hcv : (convert 22 9 (.slice Ax (rr + a1.size) 0)).run Tryd.prog w5 = .ok (.string ⟨T.toArray⟩) w5 := by
              have h := SC.out
              rw [if_pos hc, show cx - len0 = 0 by omega] at h
              exact conv_sl h SHX.out
            go_wp2_with (first | (go_at_call 29; with_reducible refine (RC1.out _).mono ?_; rintro e w' ⟨rfl, rfl⟩) | (go_at_call 29; with_reducible refine (RC2.out _).mono ?_; rintro e w' ⟨rfl, rfl⟩))
            go_ret
            exact ⟨by simp, BF.out⟩
          · have hcv : (convert 22 9 (.slice (Ax.map (·.add len0)) (rr + a1.size) (cx - len0))).run Tryd.prog w5 = .ok (.string ⟨T.toArray⟩) w5 := by
              have h := SC.out
              rw [if_neg hc] at h
              refine conv_sl h ?_
              rcases SHX.out with e | ⟨b, off, e⟩
              · exact .inl (by rw [e]; rfl)
              · exact .inr ⟨b, off + len0, by rw [e]; simp [Addr.add_lit]⟩
            go_wp2_with (first | (go_at_call 29; with_reducible refine (RC1.out _).mono ?_; rintro e w' ⟨rfl, rfl⟩) | (go_at_call 29; with_reducible refine (RC2.out _).mono ?_; rintro e w' ⟨rfl, rfl⟩))
            go_ret
            exact ⟨by simp, BF.out⟩
        · have d0 : (a3 != 0) = true := by simp [hw0]
          have d1 : (a3 == 0) = false := by simp [hw0]
          by_cases hw1 : (rc : Int) < a3
          · obtain ⟨m, rfl⟩ : ∃ m : Nat, a3 = (m : Int) := ⟨a3.toNat, by omega⟩
            rw [show want true (m : Int) rc = m by unfold want; rw [d0, Bool.and_self, if_pos rfl, if_pos hw1]; rfl] at RC2
            by_cases hc : cx = len0
            · have hcv : (convert 22 9 (.slice Ax (rr + a1.size) 0)).run Tryd.prog w5 = .ok (.string ⟨T.toArray⟩) w5 := by
                have h := SC.out
                rw [if_pos hc, show cx - len0 = 0 by omega] at h
                exact conv_sl h SHX.out
              go_wp2_with (first | (go_at_call 29; with_reducible refine (RC1.out _).mono ?_; rintro e w' ⟨rfl, rfl⟩) | (go_at_call 29; with_reducible refine (RC2.out _).mono ?_; rintro e w' ⟨rfl, rfl⟩))
              go_ret
              exact ⟨by simp, BF.out⟩
            · have hcv : (convert 22 9 (.slice (Ax.map (·.add len0)) (rr + a1.size) (cx - len0))).run Tryd.prog w5 = .ok (.string ⟨T.toArray⟩) w5 := by
                have h := SC.out
                rw [if_neg hc] at h
                refine conv_sl h ?_
                rcases SHX.out with e | ⟨b, off, e⟩
                · exact .inl (by rw [e]; rfl)
                · exact .inr ⟨b, off + len0, by rw [e]; simp [Addr.add_lit]⟩
              go_wp2_with (first | (go_at_call 29; with_reducible refine (RC1.out _).mono ?_; rintro e w' ⟨rfl, rfl⟩) | (go_at_call 29; with_reducible refine (RC2.out _).mono ?_; rintro e w' ⟨rfl, rfl⟩))
              go_ret
              exact ⟨by simp, BF.out⟩
          · rw [show want true a3 rc = rc by unfold want; rw [d0, Bool.and_self, if_pos rfl, if_neg hw1]] at RC2
            by_cases hc : cx = len0
            · have hcv : (convert 22 9 (.slice Ax (rr + a1.size) 0)).run Tryd.prog w5 = .ok (.string ⟨T.toArray⟩) w5 := by
                have h := SC.out
                rw [if_pos hc, show cx - len0 = 0 by omega] at h
                exact conv_sl h SHX.out
              go_wp2_with (first | (go_at_call 29; with_reducible refine (RC1.out _).mono ?_; rintro e w' ⟨rfl, rfl⟩) | (go_at_call 29; with_reducible refine (RC2.out _).mono ?_; rintro e w' ⟨rfl, rfl⟩))
              go_ret
              exact ⟨by simp, BF.out⟩
            · have hcv : (convert 22 9 (.slice (Ax.map (·.add len0)) (rr + a1.size) (cx - len0))).run Tryd.prog w5 = .ok (.string ⟨T.toArray⟩) w5 := by
                have h := SC.out
                rw [if_neg hc] at h
                refine conv_sl h ?_
                rcases SHX.out with e | ⟨b, off, e⟩
                · exact .inl (by rw [e]; rfl)
                · exact .inr ⟨b, off + len0, by rw [e]; simp [Addr.add_lit]⟩
              go_wp2_with (first | (go_at_call 29; with_reducible refine (RC1.out _).mono ?_; rintro e w' ⟨rfl, rfl⟩) | (go_at_call 29; with_reducible refine (RC2.out _).mono ?_; rintro e w' ⟨rfl, rfl⟩))
              go_ret
              exact ⟨by simp, BF.out⟩
    · go_enter Tryd.func8, Tryd.ntmps8
      go_wp2
      all_goals go_ret
      all_goals exact ⟨rfl, Below.refl _ _⟩
  · go_enter Tryd.func8, Tryd.ntmps8
    go_wp2
    all_goals go_ret
    all_goals exact ⟨rfl, Below.refl _ _⟩
end Go.Proofs.YtmpdcljnghaekaaDoor.fnPadStringWidthHonoured
