/- The law's model of a quoted rune, and of a field, by contracts. Conditions: lengths of at most 2^20. -/
import Derived.Test.YtokibffjabomhaaDoorZ1
import Derived.Test.YtokibffjabomhaaDoorPadS
import Derived.BigGuardPart
set_option linter.unusedSimpArgs false
namespace Go.Proofs.YtokibffjabomhaaDoor
open Go.RowKit

theorem start_lit (w : World) : Lib.OwnBuf w.heap.size 5 (.slice (some ⟨w.heap.size, 0, none⟩) 1 1) 1 [.int .u8 39] w (w.alloc (.cells #[.int .u8 39] 5)) :=
  ⟨World.ownsRowF_of (own_lit w _ [.int .u8 39] 1 rfl (by unfold maxLen; omega)), (Below.refl _ _).alloc (Nat.le_refl _) _, by simp⟩

/-- The quoted rune, as the law's model has it. -/
abbrev Quotes (T : Lib.PrintTabs) (R : Int) (w : World) (e : Ending) (w' : World) : Prop :=
  ∃ v, e = .returned v ∧ Lib.OwnBuf w.heap.size 5 v (1 + (escQ T 39 true R).length + 1) (.int .u8 39 :: (Lib.intCells (escQ T 39 true R) ++ [.int .u8 39])) w w'

theorem fin1 {T : Lib.PrintTabs} {R : Int} {w w' : World} {v : Value} {l : List Int} {n : Nat} {xs : List Value} (hE : escQ T 39 true R = l) (hn : n = 1 + l.length + 1) (hx : xs = .int .u8 39 :: (Lib.intCells l ++ [.int .u8 39])) (hb : Lib.OwnBuf w.heap.size 5 v n xs w w') :
    Quotes T R w (.returned v) w' := by
  subst hn; subst hx
  refine ⟨v, rfl, ?_⟩
  rw [hE]; exact hb

section
variable (T : Lib.PrintTabs) (c R : Int) (w : World) (h0 : 0 ≤ c) (h1 : c ≤ 18446744073709551615) (hR : zzR c = R)

set_option maxHeartbeats 4000000 in
set_option maxRecDepth 100000 in
include h0 h1 hR in
theorem zq_quoted (hq : R = 39 ∨ R = 92) :
    Calls Tryd.prog 10 #[.int .u64 c] w (Quotes T R w) := by
  obtain ⟨i, hi, hz0, hz1, hz2⟩ := info_parts info_u8
  have cV : ∀ w, Calls Tryd.prog 13 #[.int .u64 c] w fun e w' => e = .returned (.int .u64 R) ∧ w = w' := fun w => by rw [← hR]; exact (validRune_any c h0 h1 w).mono fun _ _ h => ⟨h.1, h.2.symm⟩
  clear hR
  have HE := hide (show escQ T 39 true R = [92, R] by simp [escQ, hq])
  rcases hq with rfl | rfl
  all_goals (
    go_enter Tryd.func10, Tryd.ntmps10
    have hb := start_lit w
    go_big_wp2_with (first | (go_at_call 13; refine (cV _).mono ?_; rintro e w1 ⟨rfl, rfl⟩) | (at_builtin; first | (refine wpList_append_litO rfl _ _ 22 rfl w.heap.size 5 i Tryd.underlying22 hi hz0 hz1 hz2 _ _ _ rfl w _ _ 1 rfl (by intro u hu; simp at hu; subst hu; rfl) (by assumption) (by first | rfl | (refine Eq.trans (show _ = Value.slice (some ⟨w.heap.size + 1, 0, none⟩) 1 1 from rfl) ?_; simp)) (by first | omega | (simp; omega)) ?_; intro _ _ hb) | (refine wpList_append_litO rfl _ _ 22 rfl w.heap.size 5 i Tryd.underlying22 hi hz0 hz1 hz2 _ _ _ rfl w _ _ 2 rfl (by intro u hu; simp at hu; rcases hu with rfl | rfl <;> rfl) (by assumption) (by first | rfl | (refine Eq.trans (show _ = Value.slice (some ⟨w.heap.size + 1, 0, none⟩) 2 2 from rfl) ?_; simp)) (by first | omega | (simp; omega)) ?_; intro _ _ hb)))
    go_ret
    exact fin1 HE.out (by simp) (by simp [Lib.intCells]) hb)

set_option maxHeartbeats 4000000 in
set_option maxRecDepth 100000 in
include h0 h1 hR in
theorem zq_print (hq1 : R ≠ 39) (hq2 : R ≠ 92) (g0 : 32 ≤ R) (g1 : R ≤ 126) :
    Calls Tryd.prog 10 #[.int .u64 c] w (Quotes T R w) := by
  obtain ⟨i, hi, hz0, hz1, hz2⟩ := info_parts info_u8
  have cV : ∀ w, Calls Tryd.prog 13 #[.int .u64 c] w fun e w' => e = .returned (.int .u64 R) ∧ w = w' := fun w => by rw [← hR]; exact (validRune_any c h0 h1 w).mono fun _ _ h => ⟨h.1, h.2.symm⟩
  clear hR
  have hp : Lib.isPrintR T R = true := by
    have : R ≤ 255 := by omega
    simp only [Lib.isPrintR, if_pos this, Lib.isPrintLatin]
    simp; omega
  have HE := hide (show escQ T 39 true R = [R] by
    have h128 : R < 128 := by omega
    rw [← Lib.encodeRuneZ_one (show 0 ≤ R by omega) (show R ≤ 127 by omega)]
    simp [escQ, hq1, hq2, hp, h128])
  clear hp
  go_enter Tryd.func10, Tryd.ntmps10
  have hb := start_lit w
  go_big_wp2_with (first | (go_at_call 13; refine (cV _).mono ?_; rintro e w1 ⟨rfl, rfl⟩) | (at_builtin; first | (refine wpList_append_litO rfl _ _ 22 rfl w.heap.size 5 i Tryd.underlying22 hi hz0 hz1 hz2 _ _ _ rfl w _ _ 1 rfl (by intro u hu; simp at hu; subst hu; rfl) (by assumption) (by first | rfl | (refine Eq.trans (show _ = Value.slice (some ⟨w.heap.size + 1, 0, none⟩) 1 1 from rfl) ?_; simp)) (by first | omega | (simp; omega)) ?_; intro _ _ hb) | (refine wpList_append_litO rfl _ _ 22 rfl w.heap.size 5 i Tryd.underlying22 hi hz0 hz1 hz2 _ _ _ rfl w _ _ 2 rfl (by intro u hu; simp at hu; rcases hu with rfl | rfl <;> rfl) (by assumption) (by first | rfl | (refine Eq.trans (show _ = Value.slice (some ⟨w.heap.size + 1, 0, none⟩) 2 2 from rfl) ?_; simp)) (by first | omega | (simp; omega)) ?_; intro _ _ hb)))
  go_ret
  exact fin1 HE.out (by simp) (by simp [Lib.intCells]) hb

set_option maxHeartbeats 4000000 in
set_option maxRecDepth 100000 in
include h0 h1 hR in
theorem zq_named (hn : R = 7 ∨ R = 8 ∨ R = 12 ∨ R = 10 ∨ R = 13 ∨ R = 9 ∨ R = 11) :
    Calls Tryd.prog 10 #[.int .u64 c] w (Quotes T R w) := by
  obtain ⟨i, hi, hz0, hz1, hz2⟩ := info_parts info_u8
  have cV : ∀ w, Calls Tryd.prog 13 #[.int .u64 c] w fun e w' => e = .returned (.int .u64 R) ∧ w = w' := fun w => by rw [← hR]; exact (validRune_any c h0 h1 w).mono fun _ _ h => ⟨h.1, h.2.symm⟩
  clear hR
  rcases hn with rfl | rfl | rfl | rfl | rfl | rfl | rfl
  all_goals (
    go_enter Tryd.func10, Tryd.ntmps10
    have hb := start_lit w
    go_big_wp2_with (first | (go_at_call 13; refine (cV _).mono ?_; rintro e w1 ⟨rfl, rfl⟩) | (at_builtin; first | (refine wpList_append_litO rfl _ _ 22 rfl w.heap.size 5 i Tryd.underlying22 hi hz0 hz1 hz2 _ _ _ rfl w _ _ 1 rfl (by intro u hu; simp at hu; subst hu; rfl) (by assumption) (by first | rfl | (refine Eq.trans (show _ = Value.slice (some ⟨w.heap.size + 1, 0, none⟩) 1 1 from rfl) ?_; simp)) (by first | omega | (simp; omega)) ?_; intro _ _ hb) | (refine wpList_append_litO rfl _ _ 22 rfl w.heap.size 5 i Tryd.underlying22 hi hz0 hz1 hz2 _ _ _ rfl w _ _ 2 rfl (by intro u hu; simp at hu; rcases hu with rfl | rfl <;> rfl) (by assumption) (by first | rfl | (refine Eq.trans (show _ = Value.slice (some ⟨w.heap.size + 1, 0, none⟩) 2 2 from rfl) ?_; simp)) (by first | omega | (simp; omega)) ?_; intro _ _ hb)))
    go_ret
    exact fin1 rfl (by simp [escQ, Lib.isPrintR, Lib.isPrintLatin]) (by simp [Lib.intCells, escQ, Lib.isPrintR, Lib.isPrintLatin]) hb)

set_option maxHeartbeats 4000000 in
set_option maxRecDepth 100000 in
include h0 h1 hR in
theorem zq_x (g0 : 0 ≤ R) (hx : R < 32 ∨ R = 127) (hn : ¬ (R = 7 ∨ R = 8 ∨ R = 12 ∨ R = 10 ∨ R = 13 ∨ R = 9 ∨ R = 11)) :
    Calls Tryd.prog 10 #[.int .u64 c] w (Quotes T R w) := by
  obtain ⟨i, hi, hz0, hz1, hz2⟩ := info_parts info_u8
  have cV : ∀ w, Calls Tryd.prog 13 #[.int .u64 c] w fun e w' => e = .returned (.int .u64 R) ∧ w = w' := fun w => by rw [← hR]; exact (validRune_any c h0 h1 w).mono fun _ _ h => ⟨h.1, h.2.symm⟩
  clear hR
  have hpf : Lib.isPrintR T R = false := by
    have : R ≤ 255 := by omega
    simp only [Lib.isPrintR, if_pos this, Lib.isPrintLatin]
    simp; omega
  have hnp : ¬ (Lib.isPrintR T R = true ∧ (true = true → R < 128)) := by rw [hpf]; simp
  have HE := hide (show escQ T 39 true R = 92 :: 120 :: Lib.hexDigits R.toNat 2 by
    have a1 : ¬ (R = 39 ∨ R = 92) := by omega
    have b7 : ¬ R = 7 := by omega
    have b8 : ¬ R = 8 := by omega
    have b12 : ¬ R = 12 := by omega
    have b10 : ¬ R = 10 := by omega
    have b13 : ¬ R = 13 := by omega
    have b9 : ¬ R = 9 := by omega
    have b11 : ¬ R = 11 := by omega
    unfold escQ
    rw [if_neg a1, if_neg hnp, if_neg b7, if_neg b8, if_neg b12, if_neg b10, if_neg b13, if_neg b9, if_neg b11]
    rw [if_pos hx]
    simp only [Lib.hexDigits, Nat.pow_zero, Nat.div_one, Nat.pow_one]
    rw [Nat.mod_eq_of_lt (show R.toNat / 16 < 16 by omega)])
  clear hnp
  obtain ⟨k, hk⟩ := Int.eq_ofNat_of_zero_le (show 0 ≤ R by omega)
  have HK := hide (show R.toNat = k by omega)
  have cH : ∀ w, Calls Tryd.prog 18 #[.int .u64 R, .int .i64 2] w (Made 5 2 (Lib.intCells (Lib.hexDigits k 2)) w) := fun w => by
    rw [hk]; exact hex_any k 2 (by omega) (by omega) w
  clear hk
  have hq1 : R ≠ 39 := by omega
  have hq2 : R ≠ 92 := by omega
  go_enter Tryd.func10, Tryd.ntmps10
  have hb := start_lit w
  go_big_wp2_with (first | (go_at_call 13; refine (cV _).mono ?_; rintro e w1 ⟨rfl, rfl⟩) | (at_builtin; (refine wpList_append_litO rfl _ _ 22 rfl w.heap.size 5 i Tryd.underlying22 hi hz0 hz1 hz2 _ _ _ rfl w _ _ 2 rfl (by intro u hu; simp at hu; rcases hu with rfl | rfl <;> rfl) (by assumption) (by first | rfl | (refine Eq.trans (show _ = Value.slice (some ⟨w.heap.size + 1, 0, none⟩) 2 2 from rfl) ?_; simp)) (by first | omega | (simp; omega)) ?_; intro v2 w2 hb)))
  all_goals (
    obtain ⟨A2, c2, rfl, hin2⟩ := own_inF hb.1
    have HI2 := hide hin2
    have HB2 := hide hb.2.1
    have hs2 := hb.2.2
    clear hb hin2
    refine (cH w2).mono ?_
    rintro e w3 ⟨A3, c3, rfl, ho3, hb3⟩
    have HI3 := hide (SlIn.of_own ho3)
    have HI23 := hide ((HI2.out.below hb3 (Nat.le_refl _)).mono hb3.size)
    have HB3 := hide (HB2.out.trans (hb3.mono hs2))
    have hs3 : w.heap.size ≤ w3.heap.size := Nat.le_trans hs2 hb3.size
    clear ho3 hb3
    go_big_wp2_with fail
    have e2 : ([Value.int .u8 39] ++ [.int .u8 92, .int .u8 120]) = (toB [39, 92, 120]).map bt := rfl
    have e3 : Lib.intCells (Lib.hexDigits k 2) = (toB (Lib.hexDigits k 2)).map bt := (toB_bt (hexDigits_byte k 2)).symm
    refine (cat_any A2 A3 _ c2 2 c3 (toB [39, 92, 120]) (toB (Lib.hexDigits k 2)) w3 (by rw [← e2]; exact HI23.out) (by rw [← e3]; exact HI3.out) (by omega) (by omega)).mono ?_
    rintro e w4 ⟨A4, c4, rfl, ho4, hb4⟩
    have hb : Lib.OwnBuf w.heap.size 5 (.slice A4 (1 + 2 + 2) c4) (1 + 2 + 2) (.int .u8 39 :: Lib.intCells (92 :: 120 :: Lib.hexDigits k 2)) w w4 := by
      refine ⟨World.ownsRowF_of (own_mono ?_ hs3), HB3.out.trans (hb4.mono hs3), Nat.le_trans hs3 hb4.size⟩
      have q := ho4
      rw [List.map_append, ← e3] at q
      exact q
    clear ho4 hb4 e2 e3
    go_big_wp2_with (at_builtin; (refine wpList_append_litO rfl _ _ 22 rfl w.heap.size 5 i Tryd.underlying22 hi hz0 hz1 hz2 _ _ _ rfl w _ _ 1 rfl (by intro u hu; simp at hu; subst hu; rfl) (by assumption) (by first | rfl | (refine Eq.trans (show _ = Value.slice (some ⟨w.heap.size + 1, 0, none⟩) 1 1 from rfl) ?_; simp)) (by first | omega | (simp; omega)) ?_; intro _ _ hb))
    go_ret
    exact fin1 HE.out (by simp [hexDigits_len]) (by rw [HK.out]; simp [Lib.intCells]) hb)

set_option maxHeartbeats 4000000 in
set_option maxRecDepth 100000 in
include h0 h1 hR in
theorem zq_u4 (g0 : 128 ≤ R) (g1 : R < 65536) :
    Calls Tryd.prog 10 #[.int .u64 c] w (Quotes T R w) := by
  obtain ⟨i, hi, hz0, hz1, hz2⟩ := info_parts info_u8
  have cV : ∀ w, Calls Tryd.prog 13 #[.int .u64 c] w fun e w' => e = .returned (.int .u64 R) ∧ w = w' := fun w => by rw [← hR]; exact (validRune_any c h0 h1 w).mono fun _ _ h => ⟨h.1, h.2.symm⟩
  clear hR
  have hnp : ¬ (Lib.isPrintR T R = true ∧ (true = true → R < 128)) := by rintro ⟨_, h⟩; have := h rfl; omega
  have HE := hide (show escQ T 39 true R = 92 :: 117 :: Lib.hexDigits R.toNat 4 by
    have a1 : ¬ (R = 39 ∨ R = 92) := by omega
    have b7 : ¬ R = 7 := by omega
    have b8 : ¬ R = 8 := by omega
    have b12 : ¬ R = 12 := by omega
    have b10 : ¬ R = 10 := by omega
    have b13 : ¬ R = 13 := by omega
    have b9 : ¬ R = 9 := by omega
    have b11 : ¬ R = 11 := by omega
    unfold escQ
    rw [if_neg a1, if_neg hnp, if_neg b7, if_neg b8, if_neg b12, if_neg b10, if_neg b13, if_neg b9, if_neg b11]
    rw [if_neg (by omega), if_pos g1])
  clear hnp
  obtain ⟨k, hk⟩ := Int.eq_ofNat_of_zero_le (show 0 ≤ R by omega)
  have HK := hide (show R.toNat = k by omega)
  have cH : ∀ w, Calls Tryd.prog 18 #[.int .u64 R, .int .i64 4] w (Made 5 4 (Lib.intCells (Lib.hexDigits k 4)) w) := fun w => by
    rw [hk]; exact hex_any k 4 (by omega) (by omega) w
  clear hk
  have hq1 : R ≠ 39 := by omega
  have hq2 : R ≠ 92 := by omega
  go_enter Tryd.func10, Tryd.ntmps10
  have hb := start_lit w
  go_big_wp2_with (first | (go_at_call 13; refine (cV _).mono ?_; rintro e w1 ⟨rfl, rfl⟩) | (at_builtin; (refine wpList_append_litO rfl _ _ 22 rfl w.heap.size 5 i Tryd.underlying22 hi hz0 hz1 hz2 _ _ _ rfl w _ _ 2 rfl (by intro u hu; simp at hu; rcases hu with rfl | rfl <;> rfl) (by assumption) (by first | rfl | (refine Eq.trans (show _ = Value.slice (some ⟨w.heap.size + 1, 0, none⟩) 2 2 from rfl) ?_; simp)) (by first | omega | (simp; omega)) ?_; intro v2 w2 hb)))
  all_goals (
    obtain ⟨A2, c2, rfl, hin2⟩ := own_inF hb.1
    have HI2 := hide hin2
    have HB2 := hide hb.2.1
    have hs2 := hb.2.2
    clear hb hin2
    refine (cH w2).mono ?_
    rintro e w3 ⟨A3, c3, rfl, ho3, hb3⟩
    have HI3 := hide (SlIn.of_own ho3)
    have HI23 := hide ((HI2.out.below hb3 (Nat.le_refl _)).mono hb3.size)
    have HB3 := hide (HB2.out.trans (hb3.mono hs2))
    have hs3 : w.heap.size ≤ w3.heap.size := Nat.le_trans hs2 hb3.size
    clear ho3 hb3
    go_big_wp2_with fail
    have e2 : ([Value.int .u8 39] ++ [.int .u8 92, .int .u8 117]) = (toB [39, 92, 117]).map bt := rfl
    have e3 : Lib.intCells (Lib.hexDigits k 4) = (toB (Lib.hexDigits k 4)).map bt := (toB_bt (hexDigits_byte k 4)).symm
    refine (cat_any A2 A3 _ c2 4 c3 (toB [39, 92, 117]) (toB (Lib.hexDigits k 4)) w3 (by rw [← e2]; exact HI23.out) (by rw [← e3]; exact HI3.out) (by omega) (by omega)).mono ?_
    rintro e w4 ⟨A4, c4, rfl, ho4, hb4⟩
    have hb : Lib.OwnBuf w.heap.size 5 (.slice A4 (1 + 2 + 4) c4) (1 + 2 + 4) (.int .u8 39 :: Lib.intCells (92 :: 117 :: Lib.hexDigits k 4)) w w4 := by
      refine ⟨World.ownsRowF_of (own_mono ?_ hs3), HB3.out.trans (hb4.mono hs3), Nat.le_trans hs3 hb4.size⟩
      have q := ho4
      rw [List.map_append, ← e3] at q
      exact q
    clear ho4 hb4 e2 e3
    go_big_wp2_with (at_builtin; (refine wpList_append_litO rfl _ _ 22 rfl w.heap.size 5 i Tryd.underlying22 hi hz0 hz1 hz2 _ _ _ rfl w _ _ 1 rfl (by intro u hu; simp at hu; subst hu; rfl) (by assumption) (by first | rfl | (refine Eq.trans (show _ = Value.slice (some ⟨w.heap.size + 1, 0, none⟩) 1 1 from rfl) ?_; simp)) (by first | omega | (simp; omega)) ?_; intro _ _ hb))
    go_ret
    exact fin1 HE.out (by simp [hexDigits_len]) (by rw [HK.out]; simp [Lib.intCells]) hb)

end
end Go.Proofs.YtokibffjabomhaaDoor
