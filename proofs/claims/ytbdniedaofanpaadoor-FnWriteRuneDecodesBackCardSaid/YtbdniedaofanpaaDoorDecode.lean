/- The law's own decoder of one UTF-8 sequence, at bytes that encode a rune: it gives the rune back (the replacement rune where the rune is none), and the number of bytes; the world is as it was but for draws. -/
import Derived.Test.YtbdniedaofanpaaDoorRuneModel
import Derived.IntWalk
import Derived.Deep.QuietTactic
import Derived.BigQuiet
namespace Go.Proofs.YtbdniedaofanpaaDoor
open Go.RowKit

theorem mask_tab : ∀ x : Fin 256, bits .and .u8 (x.val : Int) 224 = ((x.val / 32 * 32 : Nat) : Int) ∧ bits .and .u8 (x.val : Int) 240 = ((x.val / 16 * 16 : Nat) : Int) ∧ bits .and .u8 (x.val : Int) 248 = ((x.val / 8 * 8 : Nat) : Int) := by decide +kernel
theorem mask_at (x : Int) (h0 : 0 ≤ x) (h1 : x ≤ 255) : bits .and .u8 x 224 = x / 32 * 32 ∧ bits .and .u8 x 240 = x / 16 * 16 ∧ bits .and .u8 x 248 = x / 8 * 8 := by
  obtain ⟨a, rfl⟩ := Int.eq_ofNat_of_zero_le h0
  have := mask_tab ⟨a, by omega⟩
  refine ⟨this.1.trans ?_, this.2.1.trans ?_, this.2.2.trans ?_⟩ <;> simp

/-- The rune that comes back. -/
def norm (r : Int) : Int := if (55296 ≤ r ∧ r ≤ 57343) ∨ 1114111 < r then 65533 else r

theorem two_ints {a b c d : Int} (h1 : a = c) (h2 : b = d) : Ending.returned (.tuple #[.int .i32 a, .int .i64 b]) = .returned (.tuple #[.int .i32 c, .int .i64 d]) := by rw [h1, h2]

section
variable (b off n c i : Nat) (r : Int) (w : World)

set_option maxHeartbeats 2000000 in
theorem dec1 (h0 : 0 ≤ r) (h1 : r < 128) (hi : i + 1 ≤ n) (_hn : n ≤ 1099511627776) (c0 : w.cell? ⟨b, off + i, none⟩ = some (.int .u8 r)) :
    Calls Tryd.prog 17 #[.slice (some ⟨b, off, none⟩) n c, .int .i64 (i : Int)] w fun e w' => e = .returned (.tuple #[.int .i32 r, .int .i64 1]) ∧ ∃ q, w' = w.drewN q := by
  go_enter Tryd.func17, Tryd.ntmps17
  go_wp2
  go_ret2
  exact ⟨rfl, 0, rfl⟩

set_option maxHeartbeats 2000000 in
theorem dec2 (h0 : 128 ≤ r) (h1 : r < 2048) (hi : i + 2 ≤ n) (hn : n ≤ 1099511627776)
    (c0 : w.cell? ⟨b, off + i, none⟩ = some (.int .u8 (192 + r / 64))) (c1 : w.cell? ⟨b, off + (i + 1), none⟩ = some (.int .u8 (128 + r % 64))) :
    Calls Tryd.prog 17 #[.slice (some ⟨b, off, none⟩) n c, .int .i64 (i : Int)] w fun e w' => e = .returned (.tuple #[.int .i32 r, .int .i64 2]) ∧ ∃ q, w' = w.drewN q := by
  have m1 : bits .and .u8 (192 + r / 64) 224 = 192 := by rw [(mask_at (192 + r / 64) (by omega) (by omega)).1]; omega
  go_enter Tryd.func17, Tryd.ntmps17
  go_wp2
  go_ret2
  exact ⟨two_ints (by omega) rfl, 0, rfl⟩

set_option maxHeartbeats 4000000 in
theorem dec3 (h0 : 2048 ≤ r) (h1 : r < 65536) (hi : i + 3 ≤ n) (hn : n ≤ 1099511627776)
    (c0 : w.cell? ⟨b, off + i, none⟩ = some (.int .u8 (224 + r / 4096))) (c1 : w.cell? ⟨b, off + (i + 1), none⟩ = some (.int .u8 (128 + r / 64 % 64))) (c2 : w.cell? ⟨b, off + (i + 2), none⟩ = some (.int .u8 (128 + r % 64))) :
    Calls Tryd.prog 17 #[.slice (some ⟨b, off, none⟩) n c, .int .i64 (i : Int)] w fun e w' => e = .returned (.tuple #[.int .i32 r, .int .i64 3]) ∧ ∃ q, w' = w.drewN q := by
  have m1 : bits .and .u8 (224 + r / 4096) 224 = 224 := by rw [(mask_at (224 + r / 4096) (by omega) (by omega)).1]; omega
  have m2 : bits .and .u8 (224 + r / 4096) 240 = 224 := by rw [(mask_at (224 + r / 4096) (by omega) (by omega)).2.1]; omega
  have s1 : IntKind.i64.wrap ((i : Int) + 1) = (i : Int) + 1 := IntWalk.i64_in _ (by omega)
  have s2 : IntKind.i64.wrap ((i : Int) + 2) = (i : Int) + 2 := IntWalk.i64_in _ (by omega)
  have p1 : (0 : Int) ≤ (i : Int) + 1 := by omega
  have p2 : (0 : Int) ≤ (i : Int) + 2 := by omega
  have q1 : (i : Int) + 1 < (n : Int) := by omega
  have q2 : (i : Int) + 2 < (n : Int) := by omega
  have t1 : ((i : Int) + 1).toNat = i + 1 := by omega
  have t2 : ((i : Int) + 2).toNat = i + 2 := by omega
  go_enter Tryd.func17, Tryd.ntmps17
  go_wp2
  go_quiet (fail)
  clear s1 s2 t1 t2
  go_wp2
  go_ret2
  exact ⟨two_ints (by omega) rfl, _, rfl⟩

set_option maxHeartbeats 4000000 in
theorem dec4 (h0 : 65536 ≤ r) (h1 : r ≤ 1114111) (hi : i + 4 ≤ n) (hn : n ≤ 1099511627776)
    (c0 : w.cell? ⟨b, off + i, none⟩ = some (.int .u8 (240 + r / 262144))) (c1 : w.cell? ⟨b, off + (i + 1), none⟩ = some (.int .u8 (128 + r / 4096 % 64))) (c2 : w.cell? ⟨b, off + (i + 2), none⟩ = some (.int .u8 (128 + r / 64 % 64))) (c3 : w.cell? ⟨b, off + (i + 3), none⟩ = some (.int .u8 (128 + r % 64))) :
    Calls Tryd.prog 17 #[.slice (some ⟨b, off, none⟩) n c, .int .i64 (i : Int)] w fun e w' => e = .returned (.tuple #[.int .i32 r, .int .i64 4]) ∧ ∃ q, w' = w.drewN q := by
  have m1 : bits .and .u8 (240 + r / 262144) 224 = 224 := by rw [(mask_at (240 + r / 262144) (by omega) (by omega)).1]; omega
  have m2 : bits .and .u8 (240 + r / 262144) 240 = 240 := by rw [(mask_at (240 + r / 262144) (by omega) (by omega)).2.1]; omega
  have m3 : bits .and .u8 (240 + r / 262144) 248 = 240 := by rw [(mask_at (240 + r / 262144) (by omega) (by omega)).2.2]; omega
  have s1 : IntKind.i64.wrap ((i : Int) + 1) = (i : Int) + 1 := IntWalk.i64_in _ (by omega)
  have s2 : IntKind.i64.wrap ((i : Int) + 2) = (i : Int) + 2 := IntWalk.i64_in _ (by omega)
  have s3 : IntKind.i64.wrap ((i : Int) + 3) = (i : Int) + 3 := IntWalk.i64_in _ (by omega)
  have p1 : (0 : Int) ≤ (i : Int) + 1 := by omega
  have p2 : (0 : Int) ≤ (i : Int) + 2 := by omega
  have p3 : (0 : Int) ≤ (i : Int) + 3 := by omega
  have q1 : (i : Int) + 1 < (n : Int) := by omega
  have q2 : (i : Int) + 2 < (n : Int) := by omega
  have q3 : (i : Int) + 3 < (n : Int) := by omega
  have t1 : ((i : Int) + 1).toNat = i + 1 := by omega
  have t2 : ((i : Int) + 2).toNat = i + 2 := by omega
  have t3 : ((i : Int) + 3).toNat = i + 3 := by omega
  go_enter Tryd.func17, Tryd.ntmps17
  go_wp2
  go_quiet (fail)
  clear s1 s2 s3 t1 t2 t3
  go_wp2
  go_ret2
  exact ⟨two_ints (by omega) rfl, _, rfl⟩
end

theorem decode_any (A : Option Addr) (n c i : Nat) (ys rest : List Value) (r : Int) (w : World) (h : SlIn w w.heap.size A n c ys) (hd : ys.drop i = encV r ++ rest) (h0 : 0 ≤ r) (h1 : r ≤ 2147483647) (hn : n ≤ 1099511627776) :
    Calls Tryd.prog 17 #[.slice A n c, .int .i64 (i : Int)] w fun e w' => e = .returned (.tuple #[.int .i32 (norm r), .int .i64 ((enc r).length : Int)]) ∧ ∃ q, w' = w.drewN q := by
  have hlen := enc_len r
  have hdl : i + (enc r).length ≤ n := by
    have := congrArg List.length hd
    rw [List.length_drop, List.length_append, encV_len, h.len] at this
    omega
  have at_ : ∀ j u, (encV r)[j]? = some u → ∃ b off, A = some ⟨b, off, none⟩ ∧ w.cell? ⟨b, off + (i + j), none⟩ = some u := fun j u hu => by
    have hj : j < (encV r).length := (List.getElem?_eq_some_iff.1 hu).1
    have : ys[i + j]? = some u := by rw [← List.getElem?_drop, hd, List.getElem?_append_left hj, hu]
    obtain ⟨b, off, e, _, hc⟩ := h.cells (i + j) u this
    exact ⟨b, off, e, hc⟩
  obtain ⟨l, hl⟩ : ∃ l, enc r = l := ⟨_, rfl⟩
  obtain ⟨o, ho⟩ : ∃ o, norm r = o := ⟨_, rfl⟩
  unfold encV at at_
  rw [hl] at at_ hdl hlen
  rw [hl, ho]
  unfold enc at hl
  unfold norm at ho
  by_cases a0 : r < 128
  · rw [if_pos a0] at hl; subst hl
    rw [if_neg (by omega)] at ho; subst ho
    obtain ⟨b, off, rfl, c0⟩ := at_ 0 _ rfl
    simp only [List.length_cons, List.length_nil] at hdl
    have : r % 256 = r := by omega
    rw [this] at c0
    exact dec1 b off n c i r w h0 a0 (by omega) hn c0
  rw [if_neg a0] at hl
  by_cases a1 : r < 2048
  · rw [if_pos a1] at hl; subst hl
    rw [if_neg (by omega)] at ho; subst ho
    obtain ⟨b, off, rfl, c0⟩ := at_ 0 _ rfl
    obtain ⟨b1, off1, e1, c1⟩ := at_ 1 _ rfl
    cases e1
    simp only [List.length_cons, List.length_nil] at hdl
    exact dec2 b off n c i r w (by omega) a1 (by omega) hn c0 c1
  rw [if_neg a1] at hl
  by_cases a2 : (55296 ≤ r ∧ r ≤ 57343) ∨ 1114111 < r
  · rw [if_pos a2] at hl ho; subst hl; subst ho
    obtain ⟨b, off, rfl, c0⟩ := at_ 0 _ rfl
    obtain ⟨b1, off1, e1, c1⟩ := at_ 1 _ rfl
    cases e1
    obtain ⟨b2, off2, e2, c2⟩ := at_ 2 _ rfl
    cases e2
    simp only [List.length_cons, List.length_nil] at hdl
    exact dec3 b off n c i 65533 w (by omega) (by omega) (by omega) hn c0 c1 c2
  rw [if_neg a2] at hl ho
  subst ho
  by_cases a3 : r < 65536
  · rw [if_pos a3] at hl; subst hl
    obtain ⟨b, off, rfl, c0⟩ := at_ 0 _ rfl
    obtain ⟨b1, off1, e1, c1⟩ := at_ 1 _ rfl
    cases e1
    obtain ⟨b2, off2, e2, c2⟩ := at_ 2 _ rfl
    cases e2
    simp only [List.length_cons, List.length_nil] at hdl
    exact dec3 b off n c i r w (by omega) a3 (by omega) hn c0 c1 c2
  · rw [if_neg a3] at hl; subst hl
    obtain ⟨b, off, rfl, c0⟩ := at_ 0 _ rfl
    obtain ⟨b1, off1, e1, c1⟩ := at_ 1 _ rfl
    cases e1
    obtain ⟨b2, off2, e2, c2⟩ := at_ 2 _ rfl
    cases e2
    obtain ⟨b3, off3, e3, c3⟩ := at_ 3 _ rfl
    cases e3
    simp only [List.length_cons, List.length_nil] at hdl
    exact dec4 b off n c i r w (by omega) (by omega) (by omega) hn c0 c1 c2 c3
end Go.Proofs.YtbdniedaofanpaaDoor
