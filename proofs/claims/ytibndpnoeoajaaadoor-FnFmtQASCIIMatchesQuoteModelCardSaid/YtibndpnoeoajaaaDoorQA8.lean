/- The law's own padding by a contract. Conditions: texts of at most 2^23 bytes, a width of at most 2^16. -/
import Derived.Test.YtibndpnoeoajaaaDoorQA5
set_option linter.unusedSimpArgs false
namespace Go.Proofs.YtibndpnoeoajaaaDoor
open Go.RowKit

set_option maxHeartbeats 2000000 in
theorem zzPad_any (b off n c : Nat) (Q : List UInt8) (wp mi z : Bool) (wd : Int) (w : World) (h : SlIn w w.heap.size (some ⟨b, off, none⟩) n c (Q.map bt)) (hn0 : 0 < n) (hn : n ≤ 8388608) (hw0 : 0 ≤ wd) (hw1 : wd ≤ 65536) :
    Calls Tryd.prog 8 #[.slice (some ⟨b, off, none⟩) n c, .int .i64 (n : Int), .int .i64 wd, .bool wp, .bool mi, .bool z] w fun e w' => e = .returned (.string ⟨(fieldB mi z (room wp wd n) Q).toArray⟩) ∧ Below w.heap.size w w' := by
  obtain ⟨i0, hi, hz0, hz1, hz2⟩ := info_parts info_u8
  have HS := hide h
  clear h
  obtain ⟨k, hk⟩ : ∃ k, k = room wp wd n := ⟨_, rfl⟩
  rw [← hk]
  unfold room at hk
  by_cases hno : wp = false ∨ wd ≤ n
  · have hk0 : k = 0 := by
      rw [hk]
      rcases hno with h | h
      · simp [h]
      · split
        · omega
        · rfl
    subst hk0
    have hf : fieldB mi z 0 Q = Q := by cases mi <;> simp [fieldB]
    rw [hf]
    have hcv : (convert 24 9 (.slice (some ⟨b, off, none⟩) n c)).run Tryd.prog w = _ := conv_sl HS.out hn0
    cases wp
    · clear hno hk
      go_enter Tryd.func8, Tryd.ntmps8
      go_wp2
      go_ret
      exact ⟨rfl, Below.refl _ _⟩
    · have hle : wd ≤ n := by simpa using hno
      clear hno hk
      go_enter Tryd.func8, Tryd.ntmps8
      go_wp2
      go_ret
      exact ⟨rfl, Below.refl _ _⟩
  · obtain rfl : wp = true := by cases wp <;> simp_all
    have hgt : (n : Int) < wd := by
      have : ¬ wd ≤ n := fun h => hno (.inr h)
      omega
    have hk1 : k = (wd - n).toNat := by
      rw [hk, if_pos (by simp; omega)]
    have hkI : wd - (n : Int) = (k : Int) := by omega
    have hkb : k ≤ 65536 := by omega
    have hs1 : IntKind.i64.wrap (wd - (n : Int)) = (k : Int) := by rw [hkI]; exact IntWalk.i64_in _ (by omega)
    have hs2 : IntKind.i64.wrap ((k : Int) + (n : Int)) = (k : Int) + (n : Int) := IntWalk.i64_in _ (by omega)
    have dle : decide (wd ≤ (n : Int)) = false := by simp; omega
    clear hno hk hk1 hgt hkI
    cases mi <;> cases z
    all_goals simp only [fieldB, if_true, Bool.false_eq_true, if_false]
    · skip
      go_enter Tryd.func8, Tryd.ntmps8
      go_big_wp2_with (first | (at_make; refine wpList_make_own _ rfl _ _ 24 rfl w.heap.size 5 i0 (.int .u8 0) 1 Tryd.underlying24 hi hz0 hz1 _ _ _ (k + n) rfl rfl (by simp) (by rw [hz2]; omega) (by unfold maxLen; omega) (Nat.le_refl _) ?_; intro w1 hown1 hgrow1; have hb : Lib.OwnBuf w.heap.size 5 _ 0 [] w w1 := ⟨World.ownsRowF_of hown1, (Below.refl _ _).grown hgrow1 (Nat.le_refl _) (by intro k hk; cases hk), hgrow1.size⟩; have hin1 := (HS.out.below hb.2.1 (Nat.le_refl _)).mono hb.2.1.size; clear hown1 hgrow1))
      have Hb0 := hide hb
      clear hb hin1
      go_loopw [15, 16] (fun v ix wr => ∃ j : Nat, j ≤ k ∧ ix = .int .i64 (j : Int) ∧ Hid (Lib.OwnBuf w.heap.size 5 v (j) (padL false j) w wr)) (fun _ ix _ => k - (intOf ix).toNat)
      case atStart => exact ⟨0, Nat.zero_le _, rfl, by have := Hb0.out; simpa [Hid, padL] using this⟩
      case round =>
        obtain ⟨j, hj, rfl, HB⟩ := hrel
        clear Hb0
        by_cases hlt : j < k
        · have hb := HB.out
          have hjI : decide ((j : Int) < (k : Int)) = true := by simp; omega
          go_big_wp2_with (at_builtin; refine wpList_append_litO rfl _ _ 24 rfl w.heap.size 5 i0 Tryd.underlying24 hi hz0 hz1 hz2 _ _ _ rfl w _ _ 1 rfl (by intro u hu; simp at hu; subst hu; rfl) (by assumption) (by first | rfl | (refine Eq.trans (show _ = Value.slice (some ⟨_, 0, none⟩) 1 1 from rfl) ?_; simp)) (by first | omega | (simp; omega)) ?_; intro v2 w2 hb2)
          go_roundw
          case rel => exact ⟨j + 1, by omega, by go_num, by have := hb2; rw [show [Value.int .u8 32] = [bt (pby false)] from rfl, padL_succ] at this; exact this⟩
          case measure => simp [intOf]; omega
        · obtain rfl : j = k := by omega
          have hb := HB.out
          have hin2 := (HS.out.below hb.2.1 (Nat.le_refl _)).mono hb.2.1.size
          go_big_wp2_with (first | ((at_builtin; refine wpList_append_slO rfl _ _ 24 rfl w.heap.size 5 i0 Tryd.underlying24 hi hz0 hz1 hz2 _ _ _ rfl w _ (by assumption) b off n c Q (by assumption) (by first | rfl | simp) (by first | omega | (simp; omega)) ?_; intro v2 w2 hb2); have hcv : (convert 24 9 v2).run Tryd.prog w2 = .ok (.string ⟨(List.replicate j (pby false) ++ Q).toArray⟩) w2 := conv_buf (zs := List.replicate j (pby false) ++ Q) (by have := hb2; simpa [padL] using this) (by omega); have HBB := hide hb2.2.1; clear hb2))
          go_ret
          exact ⟨rfl, HBB.out⟩
    · skip
      go_enter Tryd.func8, Tryd.ntmps8
      go_big_wp2_with (first | (at_make; refine wpList_make_own _ rfl _ _ 24 rfl w.heap.size 5 i0 (.int .u8 0) 1 Tryd.underlying24 hi hz0 hz1 _ _ _ (k + n) rfl rfl (by simp) (by rw [hz2]; omega) (by unfold maxLen; omega) (Nat.le_refl _) ?_; intro w1 hown1 hgrow1; have hb : Lib.OwnBuf w.heap.size 5 _ 0 [] w w1 := ⟨World.ownsRowF_of hown1, (Below.refl _ _).grown hgrow1 (Nat.le_refl _) (by intro k hk; cases hk), hgrow1.size⟩; have hin1 := (HS.out.below hb.2.1 (Nat.le_refl _)).mono hb.2.1.size; clear hown1 hgrow1))
      have Hb0 := hide hb
      clear hb hin1
      go_loopw [15, 16] (fun v ix wr => ∃ j : Nat, j ≤ k ∧ ix = .int .i64 (j : Int) ∧ Hid (Lib.OwnBuf w.heap.size 5 v (j) (padL true j) w wr)) (fun _ ix _ => k - (intOf ix).toNat)
      case atStart => exact ⟨0, Nat.zero_le _, rfl, by have := Hb0.out; simpa [Hid, padL] using this⟩
      case round =>
        obtain ⟨j, hj, rfl, HB⟩ := hrel
        clear Hb0
        by_cases hlt : j < k
        · have hb := HB.out
          have hjI : decide ((j : Int) < (k : Int)) = true := by simp; omega
          go_big_wp2_with (at_builtin; refine wpList_append_litO rfl _ _ 24 rfl w.heap.size 5 i0 Tryd.underlying24 hi hz0 hz1 hz2 _ _ _ rfl w _ _ 1 rfl (by intro u hu; simp at hu; subst hu; rfl) (by assumption) (by first | rfl | (refine Eq.trans (show _ = Value.slice (some ⟨_, 0, none⟩) 1 1 from rfl) ?_; simp)) (by first | omega | (simp; omega)) ?_; intro v2 w2 hb2)
          go_roundw
          case rel => exact ⟨j + 1, by omega, by go_num, by have := hb2; rw [show [Value.int .u8 48] = [bt (pby true)] from rfl, padL_succ] at this; exact this⟩
          case measure => simp [intOf]; omega
        · obtain rfl : j = k := by omega
          have hb := HB.out
          have hin2 := (HS.out.below hb.2.1 (Nat.le_refl _)).mono hb.2.1.size
          go_big_wp2_with (first | ((at_builtin; refine wpList_append_slO rfl _ _ 24 rfl w.heap.size 5 i0 Tryd.underlying24 hi hz0 hz1 hz2 _ _ _ rfl w _ (by assumption) b off n c Q (by assumption) (by first | rfl | simp) (by first | omega | (simp; omega)) ?_; intro v2 w2 hb2); have hcv : (convert 24 9 v2).run Tryd.prog w2 = .ok (.string ⟨(List.replicate j (pby true) ++ Q).toArray⟩) w2 := conv_buf (zs := List.replicate j (pby true) ++ Q) (by have := hb2; simpa [padL] using this) (by omega); have HBB := hide hb2.2.1; clear hb2))
          go_ret
          exact ⟨rfl, HBB.out⟩
    · skip
      go_enter Tryd.func8, Tryd.ntmps8
      go_big_wp2_with (first | (at_make; refine wpList_make_own _ rfl _ _ 24 rfl w.heap.size 5 i0 (.int .u8 0) 1 Tryd.underlying24 hi hz0 hz1 _ _ _ (k + n) rfl rfl (by simp) (by rw [hz2]; omega) (by unfold maxLen; omega) (Nat.le_refl _) ?_; intro w1 hown1 hgrow1; have hb : Lib.OwnBuf w.heap.size 5 _ 0 [] w w1 := ⟨World.ownsRowF_of hown1, (Below.refl _ _).grown hgrow1 (Nat.le_refl _) (by intro k hk; cases hk), hgrow1.size⟩; have hin1 := (HS.out.below hb.2.1 (Nat.le_refl _)).mono hb.2.1.size; clear hown1 hgrow1) | (at_builtin; refine wpList_append_slO rfl _ _ 24 rfl w.heap.size 5 i0 Tryd.underlying24 hi hz0 hz1 hz2 _ _ _ rfl w _ (by assumption) b off n c Q (by assumption) (by first | rfl | simp) (by first | omega | (simp; omega)) ?_; intro v2 w2 hb2))
      have Hb0 := hide hb2
      clear hb hin1 hb2
      go_loopw [15, 16] (fun v ix wr => ∃ j : Nat, j ≤ k ∧ ix = .int .i64 (j : Int) ∧ Hid (Lib.OwnBuf w.heap.size 5 v (n + j) (Q.map bt ++ padL false j) w wr)) (fun _ ix _ => k - (intOf ix).toNat)
      case atStart => exact ⟨0, Nat.zero_le _, rfl, by have := Hb0.out; simpa [Hid, padL] using this⟩
      case round =>
        obtain ⟨j, hj, rfl, HB⟩ := hrel
        clear Hb0
        by_cases hlt : j < k
        · have hb := HB.out
          have hjI : decide ((j : Int) < (k : Int)) = true := by simp; omega
          go_big_wp2_with (at_builtin; refine wpList_append_litO rfl _ _ 24 rfl w.heap.size 5 i0 Tryd.underlying24 hi hz0 hz1 hz2 _ _ _ rfl w _ _ 1 rfl (by intro u hu; simp at hu; subst hu; rfl) (by assumption) (by first | rfl | (refine Eq.trans (show _ = Value.slice (some ⟨_, 0, none⟩) 1 1 from rfl) ?_; simp)) (by first | omega | (simp; omega)) ?_; intro v2 w2 hb2)
          go_roundw
          case rel => exact ⟨j + 1, by omega, by go_num, by have := hb2; rw [show [Value.int .u8 32] = [bt (pby false)] from rfl, List.append_assoc, padL_succ, Nat.add_assoc] at this; exact this⟩
          case measure => simp [intOf]; omega
        · obtain rfl : j = k := by omega
          have hcv0 := HB.out
          rw [show Q.map bt ++ padL false j = (Q ++ List.replicate j (pby false)).map bt by simp [padL]] at hcv0
          have hcv := conv_buf hcv0 (by omega)
          clear hcv0
          have HBB := hide HB.out.2.1
          clear HB
          go_big_wp2_with fail
          go_ret
          exact ⟨rfl, HBB.out⟩
    · skip
      go_enter Tryd.func8, Tryd.ntmps8
      go_big_wp2_with (first | (at_make; refine wpList_make_own _ rfl _ _ 24 rfl w.heap.size 5 i0 (.int .u8 0) 1 Tryd.underlying24 hi hz0 hz1 _ _ _ (k + n) rfl rfl (by simp) (by rw [hz2]; omega) (by unfold maxLen; omega) (Nat.le_refl _) ?_; intro w1 hown1 hgrow1; have hb : Lib.OwnBuf w.heap.size 5 _ 0 [] w w1 := ⟨World.ownsRowF_of hown1, (Below.refl _ _).grown hgrow1 (Nat.le_refl _) (by intro k hk; cases hk), hgrow1.size⟩; have hin1 := (HS.out.below hb.2.1 (Nat.le_refl _)).mono hb.2.1.size; clear hown1 hgrow1) | (at_builtin; refine wpList_append_slO rfl _ _ 24 rfl w.heap.size 5 i0 Tryd.underlying24 hi hz0 hz1 hz2 _ _ _ rfl w _ (by assumption) b off n c Q (by assumption) (by first | rfl | simp) (by first | omega | (simp; omega)) ?_; intro v2 w2 hb2))
      have Hb0 := hide hb2
      clear hb hin1 hb2
      go_loopw [15, 16] (fun v ix wr => ∃ j : Nat, j ≤ k ∧ ix = .int .i64 (j : Int) ∧ Hid (Lib.OwnBuf w.heap.size 5 v (n + j) (Q.map bt ++ padL true j) w wr)) (fun _ ix _ => k - (intOf ix).toNat)
      case atStart => exact ⟨0, Nat.zero_le _, rfl, by have := Hb0.out; simpa [Hid, padL] using this⟩
      case round =>
        obtain ⟨j, hj, rfl, HB⟩ := hrel
        clear Hb0
        by_cases hlt : j < k
        · have hb := HB.out
          have hjI : decide ((j : Int) < (k : Int)) = true := by simp; omega
          go_big_wp2_with (at_builtin; refine wpList_append_litO rfl _ _ 24 rfl w.heap.size 5 i0 Tryd.underlying24 hi hz0 hz1 hz2 _ _ _ rfl w _ _ 1 rfl (by intro u hu; simp at hu; subst hu; rfl) (by assumption) (by first | rfl | (refine Eq.trans (show _ = Value.slice (some ⟨_, 0, none⟩) 1 1 from rfl) ?_; simp)) (by first | omega | (simp; omega)) ?_; intro v2 w2 hb2)
          go_roundw
          case rel => exact ⟨j + 1, by omega, by go_num, by have := hb2; rw [show [Value.int .u8 48] = [bt (pby true)] from rfl, List.append_assoc, padL_succ, Nat.add_assoc] at this; exact this⟩
          case measure => simp [intOf]; omega
        · obtain rfl : j = k := by omega
          have hcv0 := HB.out
          rw [show Q.map bt ++ padL true j = (Q ++ List.replicate j (pby true)).map bt by simp [padL]] at hcv0
          have hcv := conv_buf hcv0 (by omega)
          clear hcv0
          have HBB := hide HB.out.2.1
          clear HB
          go_big_wp2_with fail
          go_ret
          exact ⟨rfl, HBB.out⟩
end Go.Proofs.YtibndpnoeoajaaaDoor
