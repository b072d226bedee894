/- The exported shim that writes a rune, and the law's own model of what is appended, by contracts. -/
import Derived.Test.YtbdniedaofanpaaDoorWriteR
import Derived.Test.YtbdniedaofanpaaDoorClone
namespace Go.Proofs.YtbdniedaofanpaaDoor
open Go.RowKit

set_option maxHeartbeats 1000000 in
theorem zzWriteRune_any (base : Nat) (A : Option Addr) (n c : Nat) (xs : List Value) (r : Int) (w : World) (hown : w.ownsRow base 5 1 (.slice A n c) n xs) (hb : base ≤ w.heap.size)
    (hM : w.cell? ⟨0, 0, none⟩ = some (.int .i64 2147483647)) (hlen : n ≤ 1073741824) (h0 : -2147483648 ≤ r) (h1 : r ≤ 2147483647) :
    Calls Tryd.prog 9 #[.slice A n c, .int .i32 r] w (Put base (Value.ownBlock (.slice A n c)) 5 (n + (enc r).length) (xs ++ encV r) w) := by
  have HO := hide hown
  have HM := hide hM
  clear hown hM
  go_enter Tryd.func9, Tryd.ntmps9
  go_wp2_with fail
  refine (writeRune_any w.heap.size base A n c xs r (w.alloc (.cells #[.slice A n c] 35)) (heap_alloc_new w _) (HO.out.alloc _) (by simp; omega) (by rw [World.cell?_alloc_lt _ _ _ (World.block_lt_of_cell? w _ HM.out)]; exact HM.out) hlen h0 h1).mono ?_
  rintro e w1 ⟨rfl, ⟨A1, c1, hbox, hown⟩, hbel⟩
  have hc := cell_of_one hbox
  have HO1 := hide hown
  have HB1 := hide hbel
  clear hbox hown hbel HO HM
  go_wp2
  go_ret
  exact ⟨A1, c1, rfl, HO1.out, Only.grown HB1.out⟩

theorem ofInt_i32 (a : Nat) (ha : a < 2147483648) : (BitVec.ofInt 32 (a : Int)).toNat = a := by
  rw [BitVec.ofInt_natCast, BitVec.toNat_ofNat]; exact Nat.mod_eq_of_lt (by omega)
theorem i32_and_nat (a b : Nat) (ha : a < 2147483648) (hb : b < 2147483648) : bits .and .i32 (a : Int) (b : Int) = ((a &&& b : Nat) : Int) := by
  have hx : a &&& b < 2 ^ 31 := Nat.and_lt_two_pow _ (by omega)
  show IntKind.i32.wrap ((BitVec.ofInt 32 (a : Int) &&& BitVec.ofInt 32 (b : Int)).toNat : Int) = _
  rw [BitVec.toNat_and, ofInt_i32 a ha, ofInt_i32 b hb, IntKind.wrap_i32]
  omega
theorem i32_or_nat (a b : Nat) (ha : a < 2147483648) (hb : b < 2147483648) : bits .or .i32 (a : Int) (b : Int) = ((a ||| b : Nat) : Int) := by
  have hx : a ||| b < 2 ^ 31 := Nat.or_lt_two_pow (by omega) (by omega)
  show IntKind.i32.wrap ((BitVec.ofInt 32 (a : Int) ||| BitVec.ofInt 32 (b : Int)).toNat : Int) = _
  rw [BitVec.toNat_or, ofInt_i32 a ha, ofInt_i32 b hb, IntKind.wrap_i32]
  omega
theorem i32_and63 (r : Int) (h0 : 0 ≤ r) (h1 : r ≤ 2147483647) : bits .and .i32 r 63 = r % 64 := by
  obtain ⟨a, rfl⟩ := Int.eq_ofNat_of_zero_le h0
  have := i32_and_nat a 63 (by omega) (by omega)
  rw [show (a &&& 63) = a % 64 from Nat.and_two_pow_sub_one_eq_mod a 6] at this
  exact this.trans (by omega)

theorem lit_made (w : World) (cs : Array Value) (n : Nat) (hn : cs.size = n) (h4 : n ≤ 4) : Made 5 n cs.toList w (.returned (.slice (some ⟨w.heap.size, 0, none⟩) n n)) (w.alloc (.cells cs 5)) :=
  ⟨_, _, rfl, World.ownsRow_lit w cs n (Nat.le_refl _) (by unfold maxLen; omega) (by omega), (Below.refl _ _).alloc (Nat.le_refl _) _⟩

set_option maxHeartbeats 2000000 in
theorem model_any (r : Int) (w : World) (h0 : -2147483648 ≤ r) (h1 : r ≤ 2147483647) :
    Calls Tryd.prog 10 #[.int .i32 r] w (Made 5 (enc r).length (encV r) w) := by
  obtain ⟨l, hl⟩ : ∃ l, enc r = l := ⟨_, rfl⟩
  unfold encV
  rw [hl]
  unfold enc at hl
  have k1 : 0 ≤ r → bits .and .i32 r 63 = r % 64 := fun h => i32_and63 r h h1
  have k2 : 0 ≤ r → bits .and .i32 (r / 64) 63 = r / 64 % 64 := fun h => i32_and63 _ (by omega) (by omega)
  have k3 : 0 ≤ r → bits .and .i32 (r / 4096) 63 = r / 4096 % 64 := fun h => i32_and63 _ (by omega) (by omega)
  by_cases a0 : r < 128
  · rw [if_pos a0] at hl; subst hl
    clear k1 k2 k3
    go_enter Tryd.func10, Tryd.ntmps10
    go_wp2
    go_ret
    exact lit_made w #[.int .u8 (r % 256)] 1 rfl (by omega)
  rw [if_neg a0] at hl
  replace k1 := k1 (by omega)
  replace k2 := k2 (by omega)
  replace k3 := k3 (by omega)
  by_cases a1 : r < 2048
  · rw [if_pos a1] at hl; subst hl
    go_enter Tryd.func10, Tryd.ntmps10
    go_wp2
    go_ret
    exact lit_made w #[.int .u8 (192 + r / 64), .int .u8 (128 + r % 64)] 2 rfl (by omega)
  rw [if_neg a1] at hl
  by_cases a2 : 1114111 < r
  · have d2 : decide (1114111 < r) = true := by simpa using a2
    rw [if_pos (.inr a2)] at hl; subst hl
    go_enter Tryd.func10, Tryd.ntmps10
    go_wp2
    go_ret
    exact lit_made w #[.int .u8 239, .int .u8 191, .int .u8 189] 3 rfl (by omega)
  have d2 : decide (1114111 < r) = false := by simpa using a2
  by_cases a3 : 55296 ≤ r
  · have d3 : decide (55296 ≤ r) = true := by simpa using a3
    by_cases a4 : r ≤ 57343
    · have d4 : decide (r ≤ 57343) = true := by simpa using a4
      rw [if_pos (.inl ⟨a3, a4⟩)] at hl; subst hl
      go_enter Tryd.func10, Tryd.ntmps10
      go_wp2
      go_ret
      exact lit_made w #[.int .u8 239, .int .u8 191, .int .u8 189] 3 rfl (by omega)
    have d4 : decide (r ≤ 57343) = false := by simpa using a4
    rw [if_neg (by omega)] at hl
    by_cases a5 : r < 65536
    · rw [if_pos a5] at hl; subst hl
      go_enter Tryd.func10, Tryd.ntmps10
      go_wp2
      go_ret
      exact lit_made w #[.int .u8 (224 + r / 4096), .int .u8 (128 + r / 64 % 64), .int .u8 (128 + r % 64)] 3 rfl (by omega)
    · rw [if_neg a5] at hl; subst hl
      go_enter Tryd.func10, Tryd.ntmps10
      go_wp2
      go_ret
      exact lit_made w #[.int .u8 (240 + r / 262144), .int .u8 (128 + r / 4096 % 64), .int .u8 (128 + r / 64 % 64), .int .u8 (128 + r % 64)] 4 rfl (by omega)
  · have d3 : decide (55296 ≤ r) = false := by simpa using a3
    rw [if_neg (by omega), if_pos (by omega)] at hl; subst hl
    go_enter Tryd.func10, Tryd.ntmps10
    go_wp2
    go_ret
    exact lit_made w #[.int .u8 (224 + r / 4096), .int .u8 (128 + r / 64 % 64), .int .u8 (128 + r % 64)] 3 rfl (by omega)

/-- The same as bytes. -/
def encB (r : Int) : List UInt8 := (enc r).map fun n => UInt8.ofNat n.toNat
theorem enc_bd (r : Int) (h1 : r ≤ 2147483647) : ∀ n ∈ enc r, 0 ≤ n ∧ n ≤ 255 := by
  unfold enc
  repeat' split
  all_goals simp
  all_goals omega
theorem encB_map (r : Int) (h1 : r ≤ 2147483647) : encV r = (encB r).map bt := by
  unfold encV encB
  rw [List.map_map]
  refine List.map_congr_left fun n hn => ?_
  have hb := enc_bd r h1 n hn
  simp only [Function.comp, bt]
  congr 1
  rw [UInt8.toNat_ofNat']
  omega
theorem encB_len (r : Int) : (encB r).length = (enc r).length := by simp [encB]
end Go.Proofs.YtbdniedaofanpaaDoor
