/- zzAppendPadding: what comes back owns what the slice owned and, behind that, n padding bytes. Conditions: the slice is the caller's own row; lengths of at most 2^22. -/
import Derived.Test.YtmpdcljnghaekaaDoorPadding
namespace Go.Proofs.YtmpdcljnghaekaaDoor
open Go.RowKit

theorem one_slin (w : World) (x : UInt8) {t : TypeId} : SlIn (w.alloc (.cells #[bt x] t)) (w.heap.size + 1) (some ⟨w.heap.size, 0, none⟩) 1 1 ([x].map bt) :=
  ⟨fun h => by simp at h, Nat.le_refl _, by unfold maxLen; omega, rfl, fun j u hu => by
    cases j with
    | zero =>
      simp at hu
      subst hu
      exact ⟨w.heap.size, 0, rfl, by omega, World.cell?_alloc_at _ _ _ _ rfl⟩
    | succ j => simp at hu⟩
set_option maxHeartbeats 1000000 in
theorem appendPadding_any (base : Nat) (A : Option Addr) (n c : Nat) (xs : List Value) (k : Int) (z : Bool) (w : World) (h : w.ownsRow base 5 1 (.slice A n c) n xs) (hb : base ≤ w.heap.size) (hn : n ≤ 4194304) (hk : k ≤ 4194304) (hk0 : -9223372036854775808 ≤ k) :
    Calls Tryd.prog 25 #[.slice A n c, .int .i64 k, .bool z] w fun e w' => ∃ A' c', e = .returned (.slice A' (n + k.toNat) c') ∧ w'.ownsRow base 5 1 (.slice A' (n + k.toNat) c') (n + k.toNat) (xs ++ padL z k.toNat) ∧ Below base w w' := by
  obtain ⟨i, hi, hz0, hz1, hz2⟩ := info_parts info_u8
  have HO := hide h
  have HB := hide hb
  clear h hb
  cases z
  · go_enter Tryd.func25, Tryd.ntmps25
    go_wp2_with (go_at_call 35; go_in)
    rw [show (#[Value.bool false, undef, Value.int .u8 32, Value.bool false].getD 2 undef) = .int .u8 32 from rfl]
    go_loopw [0, 8] (fun v ix wr => ∃ (j : Nat) (A' : Option Addr) (c' : Nat), j ≤ k.toNat ∧ ix = .int .i64 j ∧ v = .slice A' (n + j) c' ∧ Hid (wr.ownsRow base 5 1 (.slice A' (n + j) c') (n + j) (xs ++ padL false j)) ∧ Hid (Below base w wr)) (fun _ ix _ => k.toNat - (intOf ix).toNat)
    case atStart => exact ⟨0, A, c, Nat.zero_le _, rfl, rfl, by show World.ownsRow _ _ _ _ _ _ _; simpa [padL] using HO.out, Below.refl _ _⟩
    case round =>
      obtain ⟨j, A', c', hj, rfl, rfl, HOj, HBj⟩ := hrel
      have hbz : base ≤ wr.heap.size := Nat.le_trans HB.out HBj.out.size
      by_cases hlt : j < k.toNat
      · go_wp2_with (at_builtin; (refine wpList_append_in _ rfl _ _ 22 22 rfl base 5 5 i (.int .u8 0) 1 Tryd.underlying22 Tryd.underlying22 hi hz0 hz1 hz2 rfl _ (n + j) (xs ++ padL false j) rfl (HOj.out.alloc _) (wr.heap.size + 1) (some ⟨wr.heap.size, 0, none⟩) 1 1 [bt 32] rfl (one_slin wr 32) (bts_one [32]) (by unfold maxLen; omega) (by omega) (by simp; omega) ?_; intro A2 c2 w2 hown2 hgrow2; have O2 : Hid (w2.ownsRow base 5 1 (.slice A2 (n + (j + 1)) c2) (n + (j + 1)) (xs ++ padL false (j + 1))) := (by rw [List.append_assoc] at hown2; exact (show _ from padL_succ false j) ▸ hown2); have B2 := hide ((HBj.out.alloc hbz _).grown hgrow2 (by simp; omega) (fun q hq => (HOj.out.lt q hq).1)); clear hown2 hgrow2))
        go_roundw
        case rel => exact ⟨j + 1, A2, c2, by omega, by go_num, rfl, O2, B2⟩
        case measure => simp [intOf]; omega
      · obtain rfl : j = k.toNat := by omega
        go_wp2
        go_ret
        exact ⟨A', c', rfl, HOj.out, HBj.out⟩
  · go_enter Tryd.func25, Tryd.ntmps25
    go_wp2_with (go_at_call 35; go_in)
    rw [show (#[Value.bool true, undef, Value.int .u8 48, Value.bool true].getD 2 undef) = .int .u8 48 from rfl]
    go_loopw [0, 8] (fun v ix wr => ∃ (j : Nat) (A' : Option Addr) (c' : Nat), j ≤ k.toNat ∧ ix = .int .i64 j ∧ v = .slice A' (n + j) c' ∧ Hid (wr.ownsRow base 5 1 (.slice A' (n + j) c') (n + j) (xs ++ padL true j)) ∧ Hid (Below base w wr)) (fun _ ix _ => k.toNat - (intOf ix).toNat)
    case atStart => exact ⟨0, A, c, Nat.zero_le _, rfl, rfl, by show World.ownsRow _ _ _ _ _ _ _; simpa [padL] using HO.out, Below.refl _ _⟩
    case round =>
      obtain ⟨j, A', c', hj, rfl, rfl, HOj, HBj⟩ := hrel
      have hbz : base ≤ wr.heap.size := Nat.le_trans HB.out HBj.out.size
      by_cases hlt : j < k.toNat
      · go_wp2_with (at_builtin; (refine wpList_append_in _ rfl _ _ 22 22 rfl base 5 5 i (.int .u8 0) 1 Tryd.underlying22 Tryd.underlying22 hi hz0 hz1 hz2 rfl _ (n + j) (xs ++ padL true j) rfl (HOj.out.alloc _) (wr.heap.size + 1) (some ⟨wr.heap.size, 0, none⟩) 1 1 [bt 48] rfl (one_slin wr 48) (bts_one [48]) (by unfold maxLen; omega) (by omega) (by simp; omega) ?_; intro A2 c2 w2 hown2 hgrow2; have O2 : Hid (w2.ownsRow base 5 1 (.slice A2 (n + (j + 1)) c2) (n + (j + 1)) (xs ++ padL true (j + 1))) := (by rw [List.append_assoc] at hown2; exact (show _ from padL_succ true j) ▸ hown2); have B2 := hide ((HBj.out.alloc hbz _).grown hgrow2 (by simp; omega) (fun q hq => (HOj.out.lt q hq).1)); clear hown2 hgrow2))
        go_roundw
        case rel => exact ⟨j + 1, A2, c2, by omega, by go_num, rfl, O2, B2⟩
        case measure => simp [intOf]; omega
      · obtain rfl : j = k.toNat := by omega
        go_wp2
        go_ret
        exact ⟨A', c', rfl, HOj.out, HBj.out⟩
end Go.Proofs.YtmpdcljnghaekaaDoor
