/- The shim and the law's model of a quoted rune, as the laws use them: slices of bytes. Conditions: as before. -/
import Derived.Test.YtokibffjabomhaaDoorFQ2
import Derived.Test.YtokibffjabomhaaDoorFQ3
namespace Go.Proofs.YtokibffjabomhaaDoor
open Go.RowKit

theorem zquoteB (T : Lib.PrintTabs) (c : Int) (w : World) (h0 : 0 ≤ c) (h1 : c ≤ 18446744073709551615) :
    Calls Tryd.prog 10 #[.int .u64 c] w fun e w' => ∃ A d, e = .returned (.slice A (qB T true c).length d) ∧ SlIn w' w'.heap.size A (qB T true c).length d ((qB T true c).map bt) ∧ Below w.heap.size w w' := by
  refine (zquote_any T c w h0 h1).mono ?_
  rintro e w' ⟨v, rfl, hb⟩
  have hl : 1 + (escQ T 39 true (zzR c)).length + 1 = (qB T true c).length := by simp [qB, toB_len]; omega
  have hx : Value.int .u8 39 :: (Lib.intCells (escQ T 39 true (zzR c)) ++ [.int .u8 39]) = (qB T true c).map bt := by rw [qB_bt]; simp [Lib.intCells]
  rw [hl, hx] at hb
  obtain ⟨A, d, rfl, hin⟩ := own_inF hb.1
  exact ⟨A, d, rfl, hin, hb.2.1⟩

theorem own_shape {w : World} {base E n c : Nat} {A : Option Addr} {xs : List Value} (h : w.ownsRow base E 1 (.slice A n c) n xs) : A = none ∨ ∃ b off, A = some ⟨b, off, none⟩ := by
  rcases h.2 with ⟨h', _⟩ | ⟨g, cap, cur, h', _⟩
  · simp only [Value.slice.injEq] at h'; exact .inl h'.1
  · simp only [Value.slice.injEq] at h'; exact .inr ⟨g, 0, h'.1⟩
theorem padWith_at (A : Option Addr) (n c : Nat) (zs : List UInt8) (wp mi z : Bool) (wd p : Int) (hp : p = ((pby z).toNat : Int)) (w : World) (h : SlIn w w.heap.size A n c (zs.map bt)) (hn : n ≤ 1048576) (hw0 : 0 ≤ wd) (hw1 : wd ≤ 65536) :
    Calls Tryd.prog 9 #[.slice A n c, .bool wp, .int .i64 wd, .bool mi, .int .u8 p] w fun e w' => ∃ A' c', e = .returned (.slice A' (room wp wd n + n) c') ∧ SlIn w' w'.heap.size A' (room wp wd n + n) c' ((fieldB mi z (room wp wd n) zs).map bt) ∧ Below w.heap.size w w' := by
  subst hp
  exact padWith_any A n c zs wp mi z wd w h hn hw0 hw1

section
variable (T : Lib.PrintTabs) (base : Nat) (A : Option Addr) (n c0 : Nat) (zs : List UInt8) (mi z wp : Bool) (wd c : Int) (w : World)
theorem zzfmt_plus (ho : w.ownsRow base 5 1 (.slice A n c0) n (zs.map bt)) (hb : base ≤ w.heap.size)
    (hM : w.cell? ⟨0, 0, none⟩ = some (.int .i64 2147483647)) (h0 : 0 < base) (hn : n ≤ 1048576) (hw0 : -65536 ≤ wd) (hw1 : wd ≤ 65536)
    (hT : TabsFrom T base w) (hc0 : 0 ≤ c) (hc1 : c ≤ 18446744073709551615) :
    Calls Tryd.prog 7 #[.slice A n c0, .bool true, .bool mi, .bool z, .bool wp, .int .i64 wd, .int .u64 c] w (Grew base 5 (n + (room wp wd (qB T true c).length + (qB T true c).length)) ((zs ++ fieldB mi z (room wp wd (qB T true c).length) (qB T true c)).map bt) w) := by
  have := zzfmt_any T base A n c0 (zs.map bt) true wp mi z wd c w ho hb hM h0 hn hw0 hw1 (bts_one zs) hT hc0 hc1
  rw [qB_runes T c hc0, ← fieldB_bt, ← List.map_append] at this
  exact this
theorem zzfmt_plain (ho : w.ownsRow base 5 1 (.slice A n c0) n (zs.map bt)) (hb : base ≤ w.heap.size)
    (hM : w.cell? ⟨0, 0, none⟩ = some (.int .i64 2147483647)) (h0 : 0 < base) (hn : n ≤ 1048576)
    (hT : TabsFrom T base w) (hc0 : 0 ≤ c) (hc1 : c ≤ 18446744073709551615) :
    Calls Tryd.prog 7 #[.slice A n c0, .bool false, .bool false, .bool false, .bool false, .int .i64 0, .int .u64 c] w (Grew base 5 (n + (qB T false c).length) ((zs ++ qB T false c).map bt) w) := by
  have := zzfmt_any T base A n c0 (zs.map bt) false false false false 0 c w ho hb hM h0 hn (by omega) (by omega) (bts_one zs) hT hc0 hc1
  have e : ∀ r, room false 0 r = 0 := fun r => by simp [room]
  rw [e, inField_zero, ← List.map_append, Nat.zero_add] at this
  exact this
end
end Go.Proofs.YtokibffjabomhaaDoor
