/- zzDecimal: the decimal text. -/
import Derived.Test.YtjifamcbimbgmaaDoorProg
import Derived.Test.YtjifamcbimbgmaaDoorBase
import Derived.Lib.ItoaNum
import Derived.Handy
import Derived.Outline
import Derived.WalkLawsBesides
import Derived.WalkSpells
namespace Go.Proofs.YtjifamcbimbgmaaDoor
open Go.RowKit Go.Proofs.YtjifamcbimbgmaaDoor

/-- The digits, none for 0. -/
def dpre (u : Nat) : List UInt8 := if u = 0 then [] else Lib.decDigits u
theorem dpre_zero : dpre 0 = [] := rfl
theorem dpre_step {u : Nat} (h : 0 < u) : dpre u = dpre (u / 10) ++ [UInt8.ofNat (48 + u % 10)] := by
  unfold dpre
  rw [if_neg (by omega)]
  by_cases h10 : u < 10
  · rw [if_pos (by omega), Lib.decDigits, dif_pos h10, Nat.mod_eq_of_lt h10]; rfl
  · rw [if_neg (by omega), Lib.decDigits, dif_neg h10]
/-- The array behind k digits. -/
def arr (zs : List UInt8) : Array Value := (List.replicate (20 - zs.length) (bt 0) ++ zs.map bt).toArray
theorem arr_set {zs : List UInt8} {x : UInt8} (h : zs.length < 20) {i : Nat} (hi : i = 19 - zs.length) : (arr zs).setIfInBounds i (bt x) = arr (x :: zs) := by
  subst hi
  unfold arr
  rw [show 20 - zs.length = (19 - zs.length) + 1 by omega, List.replicate_succ', List.append_assoc, List.setIfInBounds_toArray]
  congr 1
  rw [List.set_append_right _ _ (by simp)]
  simp
theorem arr_size {zs : List UInt8} (h : zs.length ≤ 20) : (arr zs).size = 20 := by unfold arr; simp; omega
theorem arr_get {zs : List UInt8} {j : Nat} (hj : j < zs.length) : (arr zs)[20 - zs.length + j]? = some (bt zs[j]) := by
  unfold arr
  rw [List.getElem?_toArray, List.getElem?_append_right (by simp)]
  simp [hj]
theorem arr_spare {zs : List UInt8} (h : zs.length < 20) : (arr zs)[20 - zs.length - 1]? = some (bt 0) := by
  unfold arr
  rw [List.getElem?_toArray, List.getElem?_append_left (by simp; omega), List.getElem?_replicate, if_pos (by omega)]
theorem dpre_pos {u : Nat} (h : 0 < u) : 0 < (dpre u).length := by
  rw [dpre_step h]; simp
theorem cut_at (w : World) (b : Nat) {zs : List UInt8} (h : zs.length ≤ 20) (h0 : 0 < zs.length) :
    (Instr.sliceAt 35 (.pointer (some ⟨b, 0, none⟩)) (some (.int .i64 ((20 - zs.length : Nat) : Int))) none none).run Tryd.prog w = .ok (.slice (some ⟨b, 20 - zs.length, none⟩) zs.length zs.length) w := by
  have hl : Tryd.prog.arrayLen 35 = 20 := by kernel_rfl
  have he : Tryd.prog.elem 35 = 5 := by kernel_rfl
  rw [run_sliceAt_array_l w 35 _ (by rw [hl, he]; exact Tryd.underlying35) .i64 _ (by omega) (by rw [hl]; omega), hl, he]
  have hs : (sizeOf 5).run Tryd.prog w = .ok 1 w := by kernel_rfl
  rw [hs]
  have e : 20 - (20 - zs.length) = zs.length := by omega
  have e2 : ¬ 20 = 20 - zs.length := by omega
  simp [slicedAt, Addr.add, e, e2]
  omega
theorem conv_at (w : World) {zs : List UInt8} :
    (convert 36 9 (.slice (some ⟨w.heap.size, 20 - zs.length, none⟩) zs.length zs.length)).run Tryd.prog (w.alloc (.cells (arr zs) 35)) = .ok (.string ⟨zs.toArray⟩) (w.alloc (.cells (arr zs) 35)) :=
  run_convert_bytes_back (P := Tryd.prog) _ 36 9 5 ⟨w.heap.size, 20 - zs.length, none⟩ zs.length zs Tryd.underlying36 Tryd.underlying5 Tryd.underlying9 (fun j hj => by
    have e : (⟨w.heap.size, 20 - zs.length, none⟩ : Addr).add j = ⟨w.heap.size, 20 - zs.length + j, none⟩ := by simp [Addr.add]
    rw [e, World.cell?_alloc_at _ _ _ _ rfl]
    exact arr_get hj)
theorem dig_nat (u : Nat) : (UInt8.ofNat (48 + u % 10)).toNat = 48 + u % 10 := by
  rw [UInt8.toNat_ofNat']; omega

set_option maxHeartbeats 1000000 in
theorem dec_any (v : Int) (w : World) (h0 : -9223372036854775808 ≤ v) (h1 : v ≤ 9223372036854775807) :
    Calls Tryd.prog 6 #[.int .i64 v] w fun e w' => e = .returned (.string ⟨(Lib.itoa v).toArray⟩) ∧ Below w.heap.size w w' := by
  by_cases hz : v = 0
  · subst hz
    go_enter Tryd.func6, Tryd.ntmps6
    go_wp2
    go_ret
    exact ⟨by rw [show Lib.itoa 0 = [48] by simp [Lib.itoa, Lib.decDigits]]; rfl, Below.refl _ _⟩
  by_cases hneg : v < 0
  ·
    have d0 : decide (v < 0) = true := by simpa using hneg
    have HI : Hid (Lib.itoa v = 45 :: dpre v.natAbs) := by
      show Lib.itoa v = _
      unfold Lib.itoa dpre
      rw [if_pos hneg, if_neg (by omega)]
    go_enter Tryd.func6, Tryd.ntmps6
    go_wp2_with fail
    go_loopw [4, 6] (fun u ix wr => ∃ (uu : Nat) (zs : List UInt8), u = .int .u64 uu ∧ ix = .int .i64 ((20 - zs.length : Nat) : Int) ∧ zs.length ≤ 20 ∧ Hid (dpre uu ++ zs = dpre v.natAbs) ∧ Hid (uu < 10 ^ (20 - zs.length)) ∧ uu ≤ 9223372036854775808 ∧ Hid (wr = w.alloc (.cells (arr zs) 35))) (fun u _ _ => (intOf u).toNat)
    case atStart => exact ⟨v.natAbs, [], congrArg (Value.int .u64) (by omega), rfl, by simp, by show _ = _; simp, by show _ < _; simp; omega, by omega, rfl⟩
    case round =>
      obtain ⟨uu, zs, rfl, rfl, hl, HD, HP, hu, HW⟩ := hrel
      obtain rfl := HW.out
      by_cases h : 0 < uu
      · have hl2 : zs.length < 20 := by
          by_cases e : zs.length = 20
          · have := HP.out; rw [e] at this; simp at this; omega
          · omega
        have hget := arr_spare hl2
        go_wp2
        go_roundw
        case rel => exact ⟨uu / 10, UInt8.ofNat (48 + uu % 10) :: zs, congrArg (Value.int .u64) (by omega), congrArg (Value.int .i64) (by simp; omega), by simp; omega, by
          show _ = _
          rw [← HD.out, dpre_step h, List.append_assoc]; rfl, by
          show _ < _
          have := HP.out
          rw [show 20 - zs.length = 20 - (UInt8.ofNat (48 + uu % 10) :: zs).length + 1 by simp; omega, Nat.pow_succ] at this
          omega, by omega, by
          show _ = _
          rw [← arr_set hl2 (show 20 - zs.length - 1 = 19 - zs.length by omega), show bt (UInt8.ofNat (48 + uu % 10)) = .int .u8 (48 + uu % 10) by rw [bt, dig_nat]; rfl]⟩
        case measure => simp [intOf]; omega
      · obtain rfl : uu = 0 := by omega
        have hd := HD.out
        rw [dpre_zero, List.nil_append] at hd
        have hp : 0 < zs.length := by rw [hd]; exact dpre_pos (by omega)
        have hcut := cut_at (w.alloc (.cells (arr zs) 35)) w.heap.size hl hp
        have hcv := conv_at w (zs := zs)
        have HE := hide hd
        clear hd HD HP
        go_wp2
        go_ret
        exact ⟨by rw [HI.out, HE.out]; rfl, (Below.refl _ _).alloc (Nat.le_refl _) _⟩
  ·
    have d0 : decide (v < 0) = false := by simpa using hneg
    have HI : Hid (Lib.itoa v = dpre v.toNat) := by
      show Lib.itoa v = _
      unfold Lib.itoa dpre
      rw [if_neg hneg, if_neg (by omega)]
    go_enter Tryd.func6, Tryd.ntmps6
    go_wp2_with fail
    go_loopw [4, 6] (fun u ix wr => ∃ (uu : Nat) (zs : List UInt8), u = .int .u64 uu ∧ ix = .int .i64 ((20 - zs.length : Nat) : Int) ∧ zs.length ≤ 20 ∧ Hid (dpre uu ++ zs = dpre v.toNat) ∧ Hid (uu < 10 ^ (20 - zs.length)) ∧ uu ≤ 9223372036854775808 ∧ Hid (wr = w.alloc (.cells (arr zs) 35))) (fun u _ _ => (intOf u).toNat)
    case atStart => exact ⟨v.toNat, [], congrArg (Value.int .u64) (by omega), rfl, by simp, by show _ = _; simp, by show _ < _; simp; omega, by omega, rfl⟩
    case round =>
      obtain ⟨uu, zs, rfl, rfl, hl, HD, HP, hu, HW⟩ := hrel
      obtain rfl := HW.out
      by_cases h : 0 < uu
      · have hl2 : zs.length < 20 := by
          by_cases e : zs.length = 20
          · have := HP.out; rw [e] at this; simp at this; omega
          · omega
        have hget := arr_spare hl2
        go_wp2
        go_roundw
        case rel => exact ⟨uu / 10, UInt8.ofNat (48 + uu % 10) :: zs, congrArg (Value.int .u64) (by omega), congrArg (Value.int .i64) (by simp; omega), by simp; omega, by
          show _ = _
          rw [← HD.out, dpre_step h, List.append_assoc]; rfl, by
          show _ < _
          have := HP.out
          rw [show 20 - zs.length = 20 - (UInt8.ofNat (48 + uu % 10) :: zs).length + 1 by simp; omega, Nat.pow_succ] at this
          omega, by omega, by
          show _ = _
          rw [← arr_set hl2 (show 20 - zs.length - 1 = 19 - zs.length by omega), show bt (UInt8.ofNat (48 + uu % 10)) = .int .u8 (48 + uu % 10) by rw [bt, dig_nat]; rfl]⟩
        case measure => simp [intOf]; omega
      · obtain rfl : uu = 0 := by omega
        have hd := HD.out
        rw [dpre_zero, List.nil_append] at hd
        have hp : 0 < zs.length := by rw [hd]; exact dpre_pos (by omega)
        have hcut := cut_at (w.alloc (.cells (arr zs) 35)) w.heap.size hl hp
        have hcv := conv_at w (zs := zs)
        have HE := hide hd
        clear hd HD HP
        go_wp2
        go_ret
        exact ⟨by rw [HI.out, HE.out]; rfl, (Below.refl _ _).alloc (Nat.le_refl _) _⟩
end Go.Proofs.YtjifamcbimbgmaaDoor
