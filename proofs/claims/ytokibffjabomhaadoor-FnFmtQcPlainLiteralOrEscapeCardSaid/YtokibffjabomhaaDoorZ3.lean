/- The law's model of a quoted rune, the last arm and the whole; and of a field. Conditions: lengths of at most 2^20. -/
import Derived.Test.YtokibffjabomhaaDoorZ2
set_option linter.unusedSimpArgs false
namespace Go.Proofs.YtokibffjabomhaaDoor
open Go.RowKit
section
variable (T : Lib.PrintTabs) (c R : Int) (w : World) (h0 : 0 ≤ c) (h1 : c ≤ 18446744073709551615) (hR : zzR c = R)
set_option maxHeartbeats 4000000 in
set_option maxRecDepth 100000 in
include h0 h1 hR in
theorem zq_u8 (g0 : 65536 ≤ R) (g1 : R ≤ 1114111) :
    Calls Tryd.prog 10 #[.int .u64 c] w (Quotes T R w) := by
  obtain ⟨i, hi, hz0, hz1, hz2⟩ := info_parts info_u8
  have cV : ∀ w, Calls Tryd.prog 13 #[.int .u64 c] w fun e w' => e = .returned (.int .u64 R) ∧ w = w' := fun w => by rw [← hR]; exact (validRune_any c h0 h1 w).mono fun _ _ h => ⟨h.1, h.2.symm⟩
  clear hR
  have hnp : ¬ (Lib.isPrintR T R = true ∧ (true = true → R < 128)) := by rintro ⟨_, h⟩; have := h rfl; omega
  have HE := hide (show escQ T 39 true R = 92 :: 85 :: Lib.hexDigits R.toNat 8 by
    have a1 : ¬ (R = 39 ∨ R = 92) := by omega
    have b7 : ¬ R = 7 := by omega
    have b8 : ¬ R = 8 := by omega
    have b12 : ¬ R = 12 := by omega
    have b10 : ¬ R = 10 := by omega
    have b13 : ¬ R = 13 := by omega
    have b9 : ¬ R = 9 := by omega
    have b11 : ¬ R = 11 := by omega
    unfold escQ
    rw [if_neg a1, if_neg hnp, if_neg b7, if_neg b8, if_neg b12, if_neg b10, if_neg b13, if_neg b9, if_neg b11]
    rw [if_neg (by omega), if_neg (by omega)])
  clear hnp
  obtain ⟨k, hk⟩ := Int.eq_ofNat_of_zero_le (show 0 ≤ R by omega)
  have HK := hide (show R.toNat = k by omega)
  have cH : ∀ w, Calls Tryd.prog 18 #[.int .u64 R, .int .i64 8] w (Made 5 8 (Lib.intCells (Lib.hexDigits k 8)) w) := fun w => by
    rw [hk]; exact hex_any k 8 (by omega) (by omega) w
  clear hk
  have hq1 : R ≠ 39 := by omega
  have hq2 : R ≠ 92 := by omega
  go_enter Tryd.func10, Tryd.ntmps10
  have hb := start_lit w
  go_big_wp2_with (first | (go_at_call 13; refine (cV _).mono ?_; rintro e w1 ⟨rfl, rfl⟩) | (at_builtin; (refine wpList_append_litO rfl _ _ 22 rfl w.heap.size 5 i Tryd.underlying22 hi hz0 hz1 hz2 _ _ _ rfl w _ _ 2 rfl (by intro u hu; simp at hu; rcases hu with rfl | rfl <;> rfl) (by assumption) (by first | rfl | (refine Eq.trans (show _ = Value.slice (some ⟨w.heap.size + 1, 0, none⟩) 2 2 from rfl) ?_; simp)) (by first | omega | (simp; omega)) ?_; intro v2 w2 hb)))
  all_goals (
    obtain ⟨A2, c2, rfl, hin2⟩ := own_inF hb.1
    have HI2 := hide hin2
    have HB2 := hide hb.2.1
    have hs2 := hb.2.2
    clear hb hin2
    refine (cH w2).mono ?_
    rintro e w3 ⟨A3, c3, rfl, ho3, hb3⟩
    have HI3 := hide (SlIn.of_own ho3)
    have HI23 := hide ((HI2.out.below hb3 (Nat.le_refl _)).mono hb3.size)
    have HB3 := hide (HB2.out.trans (hb3.mono hs2))
    have hs3 : w.heap.size ≤ w3.heap.size := Nat.le_trans hs2 hb3.size
    clear ho3 hb3
    go_big_wp2_with fail
    have e2 : ([Value.int .u8 39] ++ [.int .u8 92, .int .u8 85]) = (toB [39, 92, 85]).map bt := rfl
    have e3 : Lib.intCells (Lib.hexDigits k 8) = (toB (Lib.hexDigits k 8)).map bt := (toB_bt (hexDigits_byte k 8)).symm
    refine (cat_any A2 A3 _ c2 8 c3 (toB [39, 92, 85]) (toB (Lib.hexDigits k 8)) w3 (by rw [← e2]; exact HI23.out) (by rw [← e3]; exact HI3.out) (by omega) (by omega)).mono ?_
    rintro e w4 ⟨A4, c4, rfl, ho4, hb4⟩
    have hb : Lib.OwnBuf w.heap.size 5 (.slice A4 (1 + 2 + 8) c4) (1 + 2 + 8) (.int .u8 39 :: Lib.intCells (92 :: 85 :: Lib.hexDigits k 8)) w w4 := by
      refine ⟨World.ownsRowF_of (own_mono ?_ hs3), HB3.out.trans (hb4.mono hs3), Nat.le_trans hs3 hb4.size⟩
      have q := ho4
      rw [List.map_append, ← e3] at q
      exact q
    clear ho4 hb4 e2 e3
    go_big_wp2_with (at_builtin; (refine wpList_append_litO rfl _ _ 22 rfl w.heap.size 5 i Tryd.underlying22 hi hz0 hz1 hz2 _ _ _ rfl w _ _ 1 rfl (by intro u hu; simp at hu; subst hu; rfl) (by assumption) (by first | rfl | (refine Eq.trans (show _ = Value.slice (some ⟨w.heap.size + 1, 0, none⟩) 1 1 from rfl) ?_; simp)) (by first | omega | (simp; omega)) ?_; intro _ _ hb))
    go_ret
    exact fin1 HE.out (by simp [hexDigits_len]) (by rw [HK.out]; simp [Lib.intCells]) hb)

end
theorem zquote_any (T : Lib.PrintTabs) (c : Int) (w : World) (h0 : 0 ≤ c) (h1 : c ≤ 18446744073709551615) :
    Calls Tryd.prog 10 #[.int .u64 c] w (Quotes T (zzR c) w) := by
  obtain ⟨g0, g1, g2⟩ := zzR_bd h0
  obtain ⟨R, hR⟩ : ∃ R, zzR c = R := ⟨_, rfl⟩
  rw [hR] at g0 g1 g2 ⊢
  by_cases hq : R = 39 ∨ R = 92
  · exact zq_quoted T c R w h0 h1 hR hq
  by_cases hn : R = 7 ∨ R = 8 ∨ R = 12 ∨ R = 10 ∨ R = 13 ∨ R = 9 ∨ R = 11
  · exact zq_named T c R w h0 h1 hR hn
  by_cases hx : R < 32 ∨ R = 127
  · exact zq_x T c R w h0 h1 hR g0 hx hn
  by_cases ha : R < 128
  · exact zq_print T c R w h0 h1 hR (by omega) (by omega) (by omega) (by omega)
  by_cases h4 : R < 65536
  · exact zq_u4 T c R w h0 h1 hR (by omega) h4
  · exact zq_u8 T c R w h0 h1 hR (by omega) g1

/-- A text in its field, as bytes. -/
def fieldB (mi z : Bool) (k : Nat) (l : List UInt8) : List UInt8 := if mi then l ++ List.replicate k (pby z) else List.replicate k (pby z) ++ l
theorem fieldB_bt (mi z : Bool) (k : Nat) (l : List UInt8) : (fieldB mi z k l).map bt = inField mi z k (l.map bt) := by
  cases mi <;> simp [fieldB, inField, padL]
theorem fieldB_len (mi z : Bool) (k : Nat) (l : List UInt8) : (fieldB mi z k l).length = k + l.length := by
  cases mi <;> simp [fieldB] <;> omega

set_option maxHeartbeats 2000000 in
theorem padWith_any (A : Option Addr) (n c : Nat) (zs : List UInt8) (wp mi z : Bool) (wd : Int) (w : World) (h : SlIn w w.heap.size A n c (zs.map bt)) (hn : n ≤ 1048576) (hw0 : 0 ≤ wd) (hw1 : wd ≤ 65536) :
    Calls Tryd.prog 9 #[.slice A n c, .bool wp, .int .i64 wd, .bool mi, .int .u8 ((pby z).toNat : Int)] w fun e w' => ∃ A' c', e = .returned (.slice A' (room wp wd n + n) c') ∧ SlIn w' w'.heap.size A' (room wp wd n + n) c' ((fieldB mi z (room wp wd n) zs).map bt) ∧ Below w.heap.size w w' := by
  have HS := hide h
  clear h
  obtain ⟨k, hk⟩ : ∃ k, k = room wp wd n := ⟨_, rfl⟩
  rw [← hk]
  unfold room at hk
  by_cases hno : wp = false ∨ wd ≤ n
  · have hk0 : k = 0 := by
      rw [hk]
      rcases hno with h | h
      · simp [h]
      · split
        · omega
        · rfl
    subst hk0
    have hf : fieldB mi z 0 zs = zs := by cases mi <;> simp [fieldB]
    rw [hf, Nat.zero_add]
    cases wp
    · clear hno hk
      go_enter Tryd.func9, Tryd.ntmps9
      go_wp2
      go_ret
      exact ⟨_, _, rfl, HS.out, Below.refl _ _⟩
    · have hle : wd ≤ n := by simpa using hno
      clear hno hk
      go_enter Tryd.func9, Tryd.ntmps9
      go_wp2
      go_ret
      exact ⟨_, _, rfl, HS.out, Below.refl _ _⟩
  · obtain rfl : wp = true := by cases wp <;> simp_all
    have hgt : (n : Int) < wd := by
      have : ¬ wd ≤ n := fun h => hno (.inr h)
      omega
    have hk1 : k = (wd - n).toNat := by
      rw [hk, if_pos (by simp; omega)]
    have hkI : wd - (n : Int) = (k : Int) := by omega
    obtain rfl : wd = (k : Int) + (n : Int) := by omega
    have hkb : k ≤ 65536 := by omega
    have HZ := hide hno
    have hs1 : IntKind.i64.wrap ((k : Int) + (n : Int) - (n : Int)) = (k : Int) := by rw [hkI]; exact IntWalk.i64_in _ (by omega)
    clear hno hk hk1 HZ
    cases mi
    · go_enter Tryd.func9, Tryd.ntmps9
      go_wp2_with fail
      refine (repeat_any (pby z) k (by omega) w).mono ?_
      rintro e w1 ⟨A1, c1, rfl, ho1, hb1⟩
      have HI := hide (SlIn.of_own ho1)
      have HJ := hide ((HS.out.below hb1 (Nat.le_refl _)).mono hb1.size)
      have B1 := hide hb1
      clear ho1 hb1
      go_wp2_with fail
      refine (cat_any A1 A k c1 n c _ zs w1 HI.out HJ.out (by omega) (by omega)).mono ?_
      rintro e w2 ⟨A2, c2, rfl, ho2, hb2⟩
      have HK := hide (SlIn.of_own ho2)
      have B2 := hide hb2
      clear ho2 hb2
      go_wp2
      go_ret
      exact ⟨A2, c2, rfl, HK.out, B1.out.trans (B2.out.mono B1.out.size)⟩
    · go_enter Tryd.func9, Tryd.ntmps9
      go_wp2_with fail
      refine (repeat_any (pby z) k (by omega) w).mono ?_
      rintro e w1 ⟨A1, c1, rfl, ho1, hb1⟩
      have HI := hide (SlIn.of_own ho1)
      have HJ := hide ((HS.out.below hb1 (Nat.le_refl _)).mono hb1.size)
      have B1 := hide hb1
      clear ho1 hb1
      go_wp2_with fail
      refine (cat_any A A1 n c k c1 zs _ w1 HJ.out HI.out (by omega) (by omega)).mono ?_
      rintro e w2 ⟨A2, c2, rfl, ho2, hb2⟩
      have HK := hide (SlIn.of_own ho2)
      have B2 := hide hb2
      clear ho2 hb2
      go_wp2
      go_ret
      refine ⟨A2, c2, congrArg (fun q => Ending.returned (.slice A2 q c2)) (Nat.add_comm n k), ?_, B1.out.trans (B2.out.mono B1.out.size)⟩
      rw [Nat.add_comm k n]
      exact HK.out
end Go.Proofs.YtokibffjabomhaaDoor
