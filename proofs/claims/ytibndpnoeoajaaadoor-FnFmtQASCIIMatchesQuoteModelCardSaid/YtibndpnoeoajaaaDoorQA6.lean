/- The law's own quoting at ASCII strings by a contract. Conditions: strings of at most 2^20 bytes. -/
import Derived.Test.YtibndpnoeoajaaaDoorQA5
set_option linter.unusedSimpArgs false
namespace Go.Proofs.YtibndpnoeoajaaaDoor
open Go.RowKit

set_option maxHeartbeats 16000000 in
set_option maxRecDepth 100000 in
theorem zzQuote_any (s : ByteArray) (hs : s.size ≤ 1048576) (ha : Asc s.data.toList) (w : World) :
    Calls Tryd.prog 7 #[.string s] w fun e w' => ∃ A c, e = .returned (.slice A (toB (quoteL s.data.toList)).length c) ∧ SlIn w' w'.heap.size A (toB (quoteL s.data.toList)).length c ((toB (quoteL s.data.toList)).map bt) ∧ Below w.heap.size w w' := by
  obtain ⟨i0, hi, hz0, hz1, hz2⟩ := info_parts info_u8
  have HA := hide ha
  clear ha
  have hw1 : IntKind.i64.wrap (4 * (s.size : Int)) = 4 * (s.size : Int) := IntWalk.i64_in _ (by omega)
  have hw2 : IntKind.i64.wrap (4 * (s.size : Int) + 2) = 4 * (s.size : Int) + 2 := IntWalk.i64_in _ (by omega)
  go_enter Tryd.func7, Tryd.ntmps7
  go_big_wp2_with (first | (at_make; refine wpList_make_own _ rfl _ _ 24 rfl w.heap.size 5 i0 (.int .u8 0) 1 Tryd.underlying24 hi hz0 hz1 _ _ _ (4 * s.size + 2) rfl rfl (by simp) (by rw [hz2]; omega) (by unfold maxLen; omega) (Nat.le_refl _) ?_; intro w1 hown1 hgrow1; have hb : Lib.OwnBuf w.heap.size 5 _ 0 [] w w1 := ⟨World.ownsRowF_of hown1, (Below.refl _ _).grown hgrow1 (Nat.le_refl _) (by intro k hk; cases hk), hgrow1.size⟩; clear hown1 hgrow1) | (at_builtin; (refine wpList_append_litO rfl _ _ 24 rfl w.heap.size 5 i0 Tryd.underlying24 hi hz0 hz1 hz2 _ _ _ rfl w _ _ 1 rfl (by intro u hu; simp at hu; subst hu; rfl) (by assumption) (by first | rfl | (refine Eq.trans (show _ = Value.slice (some ⟨_, 0, none⟩) 1 1 from rfl) ?_; simp)) (by first | omega | (simp; omega)) ?_; intro v2 w2 hb)))
  have Hb0 := hide hb
  clear hb
  go_loopw [3, 4] (fun v ix wr => ∃ (k : Nat) (acc : List Int), k ≤ s.size ∧ ix = .int .i64 (k : Int) ∧ Hid (Lib.OwnBuf w.heap.size 5 v (1 + acc.length) (Lib.intCells (34 :: acc)) w wr) ∧ Hid (acc = escL (s.data.toList.take k)) ∧ acc.length ≤ 4 * k) (fun _ ix _ => s.size - (intOf ix).toNat)
  case atStart => exact ⟨0, [], Nat.zero_le _, rfl, by have := Hb0.out; simpa [Hid, Lib.intCells] using this, rfl, by simp⟩
  case round =>
    obtain ⟨k, acc, hk, rfl, HB, HQ, hlen⟩ := hrel
    clear Hb0
    by_cases hlt : k < s.size
    · obtain ⟨x, hx⟩ : ∃ x, (s[k]'hlt).toNat = x := ⟨_, rfl⟩
      have hx128 : x < 128 := by rw [← hx]; exact HA.out.at k hlt
      have HS : Hid (escL (s.data.toList.take (k + 1)) = escL (s.data.toList.take k) ++ zE x) := by
        show _ = _
        rw [List.take_add_one, str_at s k hlt]
        show escL (List.take k s.data.toList ++ [s[k]]) = _
        rw [escL_app]
        congr 1
        rw [← hx, ← escB_eq (by rw [hx]; exact hx128)]
        simp [escL]
      have hb := HB.out
      have hnl : 1 + acc.length + 4 ≤ 140737488355328 := by omega
      have fin : ∀ (e : List Int) (m : Nat) (news : List Value) (v' : Value) (w' : World), zE x = e → e.length = m → news = Lib.intCells e → m ≤ 4 → Lib.OwnBuf w.heap.size 5 v' (1 + acc.length + m) (Lib.intCells (34 :: acc) ++ news) w w' →
          ∃ (k' : Nat) (acc' : List Int), k' ≤ s.size ∧ Value.int .i64 ((k : Int) + 1) = .int .i64 (k' : Int) ∧ Hid (Lib.OwnBuf w.heap.size 5 v' (1 + acc'.length) (Lib.intCells (34 :: acc')) w w') ∧ Hid (acc' = escL (s.data.toList.take k')) ∧ acc'.length ≤ 4 * k' := by
        intro e m news v' w' hz hm hn h4 hbb
        refine ⟨k + 1, acc ++ e, by omega, by go_num, step_buf hbb rfl hm hn, ?_, by simp only [List.length_append]; omega⟩
        show _ = _
        rw [HS.out, HQ.out, hz]
      have FIN := hide fin
      clear fin
      by_cases c0 : x = 34 ∨ x = 92
      · rcases c0 with rfl | rfl
        · go_big_wp2_with (first | (at_builtin; (refine wpList_append_litO rfl _ _ 24 rfl w.heap.size 5 i0 Tryd.underlying24 hi hz0 hz1 hz2 _ _ _ rfl w _ _ 2 rfl (by intro u hu; simp at hu; rcases hu with rfl | rfl <;> rfl) (by assumption) (by first | rfl | (refine Eq.trans (show _ = Value.slice (some ⟨_, 0, none⟩) 2 2 from rfl) ?_; simp)) (by first | omega | (simp; omega)) ?_; intro v2 w2 hb)))
          go_roundw
          case rel => exact FIN.out [92, 34] 2 _ _ _ rfl rfl (by first | rfl | simp [Lib.intCells]) (by omega) hb
          case measure => simp [intOf]; omega
        · go_big_wp2_with (first | (at_builtin; (refine wpList_append_litO rfl _ _ 24 rfl w.heap.size 5 i0 Tryd.underlying24 hi hz0 hz1 hz2 _ _ _ rfl w _ _ 2 rfl (by intro u hu; simp at hu; rcases hu with rfl | rfl <;> rfl) (by assumption) (by first | rfl | (refine Eq.trans (show _ = Value.slice (some ⟨_, 0, none⟩) 2 2 from rfl) ?_; simp)) (by first | omega | (simp; omega)) ?_; intro v2 w2 hb)))
          go_roundw
          case rel => exact FIN.out [92, 92] 2 _ _ _ rfl rfl (by first | rfl | simp [Lib.intCells]) (by omega) hb
          case measure => simp [intOf]; omega
      have n34 : ((x : Int) == 34) = false := by simp; omega
      have n92 : ((x : Int) == 92) = false := by simp; omega
      by_cases c1 : 32 ≤ x ∧ x ≤ 126
      · have g1 : decide (32 ≤ (x : Int)) = true := by simp; omega
        have g2 : decide ((x : Int) ≤ 126) = true := by simp; omega
        have HZ : Hid (zE x = [(x : Int)]) := by show _ = _; unfold zE; rw [if_neg c0, if_pos c1]
        clear hx128 c0 c1
        go_big_wp2_with (first | (at_builtin; (refine wpList_append_litO rfl _ _ 24 rfl w.heap.size 5 i0 Tryd.underlying24 hi hz0 hz1 hz2 _ _ _ rfl w _ _ 1 rfl (by intro u hu; simp at hu; subst hu; rfl) (by assumption) (by first | rfl | (refine Eq.trans (show _ = Value.slice (some ⟨_, 0, none⟩) 1 1 from rfl) ?_; simp)) (by first | omega | (simp; omega)) ?_; intro v2 w2 hb)))
        go_roundw
        case rel => exact FIN.out [(x : Int)] 1 _ _ _ HZ.out rfl (by first | rfl | simp [Lib.intCells]) (by omega) hb
        case measure => simp [intOf]; omega
      by_cases c2 : x = 7 ∨ x = 8 ∨ x = 9 ∨ x = 10 ∨ x = 11 ∨ x = 12 ∨ x = 13
      · rcases c2 with rfl | rfl | rfl | rfl | rfl | rfl | rfl
        · go_big_wp2_with (first | (at_builtin; (refine wpList_append_litO rfl _ _ 24 rfl w.heap.size 5 i0 Tryd.underlying24 hi hz0 hz1 hz2 _ _ _ rfl w _ _ 2 rfl (by intro u hu; simp at hu; rcases hu with rfl | rfl <;> rfl) (by assumption) (by first | rfl | (refine Eq.trans (show _ = Value.slice (some ⟨_, 0, none⟩) 2 2 from rfl) ?_; simp)) (by first | omega | (simp; omega)) ?_; intro v2 w2 hb)))
          go_roundw
          case rel => exact FIN.out [92, 97] 2 _ _ _ rfl rfl (by first | rfl | simp [Lib.intCells]) (by omega) hb
          case measure => simp [intOf]; omega
        · go_big_wp2_with (first | (at_builtin; (refine wpList_append_litO rfl _ _ 24 rfl w.heap.size 5 i0 Tryd.underlying24 hi hz0 hz1 hz2 _ _ _ rfl w _ _ 2 rfl (by intro u hu; simp at hu; rcases hu with rfl | rfl <;> rfl) (by assumption) (by first | rfl | (refine Eq.trans (show _ = Value.slice (some ⟨_, 0, none⟩) 2 2 from rfl) ?_; simp)) (by first | omega | (simp; omega)) ?_; intro v2 w2 hb)))
          go_roundw
          case rel => exact FIN.out [92, 98] 2 _ _ _ rfl rfl (by first | rfl | simp [Lib.intCells]) (by omega) hb
          case measure => simp [intOf]; omega
        · go_big_wp2_with (first | (at_builtin; (refine wpList_append_litO rfl _ _ 24 rfl w.heap.size 5 i0 Tryd.underlying24 hi hz0 hz1 hz2 _ _ _ rfl w _ _ 2 rfl (by intro u hu; simp at hu; rcases hu with rfl | rfl <;> rfl) (by assumption) (by first | rfl | (refine Eq.trans (show _ = Value.slice (some ⟨_, 0, none⟩) 2 2 from rfl) ?_; simp)) (by first | omega | (simp; omega)) ?_; intro v2 w2 hb)))
          go_roundw
          case rel => exact FIN.out [92, 116] 2 _ _ _ rfl rfl (by first | rfl | simp [Lib.intCells]) (by omega) hb
          case measure => simp [intOf]; omega
        · go_big_wp2_with (first | (at_builtin; (refine wpList_append_litO rfl _ _ 24 rfl w.heap.size 5 i0 Tryd.underlying24 hi hz0 hz1 hz2 _ _ _ rfl w _ _ 2 rfl (by intro u hu; simp at hu; rcases hu with rfl | rfl <;> rfl) (by assumption) (by first | rfl | (refine Eq.trans (show _ = Value.slice (some ⟨_, 0, none⟩) 2 2 from rfl) ?_; simp)) (by first | omega | (simp; omega)) ?_; intro v2 w2 hb)))
          go_roundw
          case rel => exact FIN.out [92, 110] 2 _ _ _ rfl rfl (by first | rfl | simp [Lib.intCells]) (by omega) hb
          case measure => simp [intOf]; omega
        · go_big_wp2_with (first | (at_builtin; (refine wpList_append_litO rfl _ _ 24 rfl w.heap.size 5 i0 Tryd.underlying24 hi hz0 hz1 hz2 _ _ _ rfl w _ _ 2 rfl (by intro u hu; simp at hu; rcases hu with rfl | rfl <;> rfl) (by assumption) (by first | rfl | (refine Eq.trans (show _ = Value.slice (some ⟨_, 0, none⟩) 2 2 from rfl) ?_; simp)) (by first | omega | (simp; omega)) ?_; intro v2 w2 hb)))
          go_roundw
          case rel => exact FIN.out [92, 118] 2 _ _ _ rfl rfl (by first | rfl | simp [Lib.intCells]) (by omega) hb
          case measure => simp [intOf]; omega
        · go_big_wp2_with (first | (at_builtin; (refine wpList_append_litO rfl _ _ 24 rfl w.heap.size 5 i0 Tryd.underlying24 hi hz0 hz1 hz2 _ _ _ rfl w _ _ 2 rfl (by intro u hu; simp at hu; rcases hu with rfl | rfl <;> rfl) (by assumption) (by first | rfl | (refine Eq.trans (show _ = Value.slice (some ⟨_, 0, none⟩) 2 2 from rfl) ?_; simp)) (by first | omega | (simp; omega)) ?_; intro v2 w2 hb)))
          go_roundw
          case rel => exact FIN.out [92, 102] 2 _ _ _ rfl rfl (by first | rfl | simp [Lib.intCells]) (by omega) hb
          case measure => simp [intOf]; omega
        · go_big_wp2_with (first | (at_builtin; (refine wpList_append_litO rfl _ _ 24 rfl w.heap.size 5 i0 Tryd.underlying24 hi hz0 hz1 hz2 _ _ _ rfl w _ _ 2 rfl (by intro u hu; simp at hu; rcases hu with rfl | rfl <;> rfl) (by assumption) (by first | rfl | (refine Eq.trans (show _ = Value.slice (some ⟨_, 0, none⟩) 2 2 from rfl) ?_; simp)) (by first | omega | (simp; omega)) ?_; intro v2 w2 hb)))
          go_roundw
          case rel => exact FIN.out [92, 114] 2 _ _ _ rfl rfl (by first | rfl | simp [Lib.intCells]) (by omega) hb
          case measure => simp [intOf]; omega
      by_cases c3 : x = 127
      · subst c3
        have CH7 : Hid (∀ w, Calls Tryd.prog 10 #[.int .u8 7, .bool false] w fun e w' => e = .returned (.int .u8 55) ∧ w = w') := fun w => hexDigit_any 7 (by omega) w
        have CH15 : Hid (∀ w, Calls Tryd.prog 10 #[.int .u8 15, .bool false] w fun e w' => e = .returned (.int .u8 102) ∧ w = w') := fun w => hexDigit_any 15 (by omega) w
        go_big_wp2_with fail
        refine (CH7.out _).mono ?_
        rintro e w' ⟨rfl, rfl⟩
        go_big_wp2_with fail
        refine (CH15.out _).mono ?_
        rintro e w' ⟨rfl, rfl⟩
        go_big_wp2_with (first | (at_builtin; (refine wpList_append_litO rfl _ _ 24 rfl w.heap.size 5 i0 Tryd.underlying24 hi hz0 hz1 hz2 _ _ _ rfl w _ _ 4 rfl (by intro u hu; simp at hu; rcases hu with rfl | rfl | rfl | rfl <;> rfl) (by assumption) (by first | rfl | (refine Eq.trans (show _ = Value.slice (some ⟨_, 0, none⟩) 4 4 from rfl) ?_; simp)) (by first | omega | (simp; omega)) ?_; intro v2 w2 hb)))
        go_roundw
        case rel => exact FIN.out [92, 120, 55, 102] 4 _ _ _ rfl rfl (by first | rfl | simp [Lib.intCells]) (by omega) hb
        case measure => simp [intOf]; omega
      · have g1 : decide (32 ≤ (x : Int)) = false := by simp; omega
        have n7 : ((x : Int) == 7) = false := by simp; omega
        have n8 : ((x : Int) == 8) = false := by simp; omega
        have n9 : ((x : Int) == 9) = false := by simp; omega
        have n10 : ((x : Int) == 10) = false := by simp; omega
        have n11 : ((x : Int) == 11) = false := by simp; omega
        have n12 : ((x : Int) == 12) = false := by simp; omega
        have n13 : ((x : Int) == 13) = false := by simp; omega
        have HZ : Hid (zE x = [92, 120, Lib.hexDigit (x / 16), Lib.hexDigit (x % 16)]) := by
          show _ = _
          unfold zE
          rw [if_neg c0, if_neg c1, if_neg (by omega), if_neg (by omega), if_neg (by omega), if_neg (by omega), if_neg (by omega), if_neg (by omega), if_neg (by omega)]
        have cH1 := hexDigit_any (x / 16) (by omega)
        have cH2 := hexDigit_any (x % 16) (by omega)
        have q1 : (x : Int) / 16 = ((x / 16 : Nat) : Int) := by omega
        have q2 : (x : Int) % 16 = ((x % 16 : Nat) : Int) := by omega
        have hd1 := hexDigit_byte (x / 16) (by omega)
        have hd2 := hexDigit_byte (x % 16) (by omega)
        have hm1 : Hid (((x / 16 : Nat) : Int) % 256 = ((x / 16 : Nat) : Int)) := by show _ = _; omega
        have hm2 : Hid (((x % 16 : Nat) : Int) % 256 = ((x % 16 : Nat) : Int)) := by show _ = _; omega
        generalize x / 16 = y1 at cH1 q1 hd1 HZ hm1
        generalize x % 16 = y2 at cH2 q2 hd2 HZ hm2
        generalize Lib.hexDigit y1 = h1 at cH1 hd1 HZ
        generalize Lib.hexDigit y2 = h2 at cH2 hd2 HZ
        have CH1 := hide cH1
        have CH2 := hide cH2
        clear hx128 c0 c1 c2 c3 cH1 cH2
        go_big_wp2_with fail
        try rw [hm1.out]
        refine (CH1.out _).mono ?_
        rintro e w' ⟨rfl, rfl⟩
        go_big_wp2_with fail
        try rw [hm2.out]
        refine (CH2.out _).mono ?_
        rintro e w' ⟨rfl, rfl⟩
        go_big_wp2_with (first | (at_builtin; (refine wpList_append_litO rfl _ _ 24 rfl w.heap.size 5 i0 Tryd.underlying24 hi hz0 hz1 hz2 _ _ _ rfl w _ _ 4 rfl (by intro u hu; simp at hu; rcases hu with rfl | rfl | rfl | rfl <;> rfl) (by assumption) (by first | rfl | (refine Eq.trans (show _ = Value.slice (some ⟨_, 0, none⟩) 4 4 from rfl) ?_; simp)) (by first | omega | (simp; omega)) ?_; intro v2 w2 hb)))
        go_roundw
        case rel => exact FIN.out [92, 120, h1, h2] 4 _ _ _ HZ.out rfl (by first | rfl | simp [Lib.intCells]) (by omega) hb
        case measure => simp [intOf]; omega
    · obtain rfl : k = s.size := by omega
      have hb := HB.out
      have HQ2 : Hid (acc = escL s.data.toList) := by
        show _ = _
        have := HQ.out
        rwa [List.take_of_length_le (by rw [bsz]; exact Nat.le_refl _)] at this
      have hnl : 1 + acc.length + 1 ≤ 140737488355328 := by omega
      have HA2 := HA
      go_big_wp2_with (at_builtin; (refine wpList_append_litO rfl _ _ 24 rfl w.heap.size 5 i0 Tryd.underlying24 hi hz0 hz1 hz2 _ _ _ rfl w _ _ 1 rfl (by intro u hu; simp at hu; subst hu; rfl) (by assumption) (by first | rfl | (refine Eq.trans (show _ = Value.slice (some ⟨_, 0, none⟩) 1 1 from rfl) ?_; simp)) (by first | omega | (simp; omega)) ?_; intro v2 w2 hb))
      go_ret
      have e2 : Lib.intCells (34 :: acc) ++ [.int .u8 34] = (toB (quoteL s.data.toList)).map bt := by
        rw [toB_bt (quoteL_bd HA.out), HQ2.out]
        simp [quoteL, Lib.intCells]
      have e3 : 1 + acc.length + 1 = (toB (quoteL s.data.toList)).length := by
        rw [toB_len, HQ2.out]
        simp [quoteL]; omega
      rw [e2, e3] at hb
      obtain ⟨A, c, rfl, hin⟩ := own_inF hb.1
      exact ⟨A, c, rfl, hin, hb.2.1⟩
end Go.Proofs.YtibndpnoeoajaaaDoor
