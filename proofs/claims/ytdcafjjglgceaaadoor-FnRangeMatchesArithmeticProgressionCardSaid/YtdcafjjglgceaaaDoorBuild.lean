/- buildRange: the array of an arithmetic progression, upwards and downwards. Conditions: a positive step, at most 2^16 elements, one step past the stop does not overflow. -/
import Derived.Test.YtdcafjjglgceaaaDoorObjs
import Derived.Test.YtdcafjjglgceaaaDoorProgn
namespace Go.Proofs.YtdcafjjglgceaaaDoor
open Go.RowKit

/-- An array of n Ints comes back in new memory. -/
def RangeArr (n : Nat) (zs : List Int) (w : World) (e : Ending) (w' : World) : Prop :=
  ∃ ab A c vs, e = .returned (.pointer (some ⟨ab, 0, none⟩)) ∧ Blk w' ab #[.slice A n c] 39 ∧ SlIn w' w'.heap.size A n c vs ∧ Objs w' w.heap.size vs zs ∧ Below w.heap.size w w'

theorem own_not {w : World} {base E T b n : Nat} {v : Value} {cs : Array Value} {xs : List Value} (hT : ¬ E = T) (hb : Blk w b cs T) (ho : w.ownsRow base E 1 v n xs) : some b ≠ v.ownBlock := by
  intro e
  rcases ho.2 with ⟨rfl, _⟩ | ⟨g, cap, cur, rfl, _, hg, _⟩
  · simp [Value.ownBlock] at e
  · simp only [Value.ownBlock, Option.some.injEq] at e
    subst e
    unfold Blk at hb
    rw [hb] at hg
    simp only [Option.some.injEq, Obj.cells.injEq] at hg
    exact hT hg.2.1.symm

theorem grown_set (w : World) (b : Nat) (v : Value) : w.grownBy (w.setCell ⟨b, 0, none⟩ v) (some b) :=
  ⟨rfl, rfl, rfl, by simp, fun k _ hk => heap_setCell_other w ⟨b, 0, none⟩ k _ (fun e => hk (by simp [e]))⟩

/-- What a round leaves. -/
structure Rg (w wr : World) (ab k c : Nat) (A : Option Addr) (vs : List Value) (zs : List Int) : Prop where
  arr : Blk wr ab #[.slice A k c] 39
  own : wr.ownsRow w.heap.size 23 1 (.slice A k c) k vs
  obj : Objs wr w.heap.size vs zs
  bel : Below w.heap.size w wr

theorem Rg.snoc {w wr w2 : World} {ab k c c2 : Nat} {A A2 : Option Addr} {vs : List Value} {zs : List Int} {x : Int} (h : Rg w wr ab k c A vs zs) (hab : w.heap.size ≤ ab)
    (hown : w2.ownsRow w.heap.size 23 1 (.slice A2 (k + 1) c2) (k + 1) (vs ++ [.iface 28 (.pointer (some ⟨wr.heap.size, 0, none⟩))])) (hg : ((wr.alloc (.cells #[.int .i64 x] 32)).alloc (.cells #[.iface 28 (.pointer (some ⟨wr.heap.size, 0, none⟩))] 23)).grownBy w2 (Value.ownBlock (.slice A k c))) :
    w2.cell? ⟨ab, 0, none⟩ = some (.slice A k c) ∧ w2.frozen? ⟨ab, 0, none⟩ = false ∧ Rg w (w2.setCell ⟨ab, 0, none⟩ (.slice A2 (k + 1) c2)) ab (k + 1) c2 A2 (vs ++ [.iface 28 (.pointer (some ⟨wr.heap.size, 0, none⟩))]) (zs ++ [x]) := by
  have hb := h.bel
  have ho : ((wr.alloc (.cells #[.int .i64 x] 32)).alloc (.cells #[.iface 28 (.pointer (some ⟨wr.heap.size, 0, none⟩))] 23)).ownsRow w.heap.size 23 1 (.slice A k c) k vs := (h.own.alloc _).alloc _
  have hblk : Blk ((wr.alloc (.cells #[.int .i64 x] 32)).alloc (.cells #[.iface 28 (.pointer (some ⟨wr.heap.size, 0, none⟩))] 23)) ab #[.slice A k c] 39 := (h.arr.alloc _).alloc _
  have hblk2 : Blk w2 ab #[.slice A k c] 39 := hblk.of_eq (hg.block ab hblk.lt (own_not (by decide) hblk ho))
  have h1 : Objs ((wr.alloc (.cells #[.int .i64 x] 32)).alloc (.cells #[.iface 28 (.pointer (some ⟨wr.heap.size, 0, none⟩))] 23)) w.heap.size vs zs := (h.obj.alloc _).alloc _
  have h2 : Objs ((wr.alloc (.cells #[.int .i64 x] 32)).alloc (.cells #[.iface 28 (.pointer (some ⟨wr.heap.size, 0, none⟩))] 23)) w.heap.size [.iface 28 (.pointer (some ⟨wr.heap.size, 0, none⟩))] [x] :=
    ⟨rfl, fun j v y hj hy => by
      match j, hj, hy with
      | 0, hj, hy =>
        simp at hj hy
        subst hj hy
        exact ⟨wr.heap.size, rfl, hb.size, (Blk.new wr _ _).alloc _⟩⟩
  have h3 := (h1.append h2).grown ho (by decide) hg
  have hset := grown_set w2 ab (.slice A2 (k + 1) c2)
  refine ⟨hblk2.at rfl, hblk2.free 0, hblk2.set 0 _, hown.kept hset (.inr (fun e => own_not (by decide) hblk2 hown e.symm)), h3.stored hblk2 (by decide) 0 _, ?_⟩
  have b2 : Below w.heap.size w w2 := (((hb.alloc hb.size _).alloc (by have := hb.size; simp; omega) _)).grown hg (by have := hb.size; simp; omega) (fun q hq => (ho.lt q hq).1)
  exact b2.setCell hab _

set_option maxHeartbeats 2000000 in
theorem build_up (s p t : Int) (n : Nat) (w : World) (hs : -9223372036854775808 ≤ s) (hp : s ≤ p) (ht : 0 < t) (hm : p + t ≤ 9223372036854775807) (hn : n ≤ 65536) (h1 : ∀ k : Nat, k < n → s + (k : Int) * t < p) (h2 : p ≤ s + (n : Int) * t) :
    Calls Tryd.prog 9 #[.int .i64 s, .int .i64 p, .int .i64 t] w (RangeArr n (prog s t n) w) := by
  obtain ⟨i, hi, hz0, hz1, hz2⟩ := info_parts info_obj
  have H1 := hide h1
  have H2 := hide h2
  clear h1 h2
  go_enter Tryd.func9, Tryd.ntmps9
  go_wp2
  have R0 : Hid (Rg w (w.alloc (.cells #[.slice none 0 0] 39)) w.heap.size 0 0 none [] (prog s t 0)) := ⟨Blk.new w _ _, World.ownsRow_nil _ _ _ _, Objs.nil _ _, (Below.refl _ _).alloc (Nat.le_refl _) _⟩
  go_loopw [8] (fun ix wr => ∃ (k : Nat) (x : Int) (A : Option Addr) (c : Nat) (vs : List Value), k ≤ n ∧ ix = .int .i64 x ∧ s ≤ x ∧ x ≤ 9223372036854775807 ∧ Hid (x = s + (k : Int) * t) ∧ Hid (Rg w wr w.heap.size k c A vs (prog s t k))) (fun ix _ => (p - intOf ix).toNat)
  case atStart => exact ⟨0, s, none, 0, [], Nat.zero_le _, rfl, Int.le_refl _, by omega, hide (by simp), R0⟩
  case round =>
    obtain ⟨k, x, A, c, vs, hk, rfl, hx1, hx2, HX, HR⟩ := hrel
    clear R0
    by_cases hlt : x < p
    · have hkn : k < n := lt_of_prog ht (HX.out ▸ hlt) H2.out
      have hbz := HR.out.bel.size
      have hc := HR.out.arr.at (i := 0) (v := .slice A k c) rfl
      have hlb := HR.out.arr.lt
      go_wp2_with (at_builtin; refine wpList_append_in _ rfl _ _ 37 37 rfl w.heap.size 23 23 i .nilIface 16 Tryd.underlying37 Tryd.underlying37 hi hz0 hz1 hz2 rfl _ k vs rfl ((HR.out.own.alloc _).alloc _) (wr.heap.size + 1 + 1) (some ⟨wr.heap.size + 1, 0, none⟩) 1 1 [.iface 28 (.pointer (some ⟨wr.heap.size, 0, none⟩))] rfl (one_at wr x) (by simp [Value.oneCell']) (by unfold maxLen; omega) (by omega) (by simp; omega) ?_; intro A2 c2 w2 hown2 hgrow2; have R2 := HR.out.snoc (Nat.le_refl _) hown2 hgrow2; have r1 := R2.1; have r2 := R2.2.1; have R3 := hide R2.2.2; clear R2 hown2 hgrow2)
      go_roundw
      case rel => exact ⟨k + 1, x + t, A2, c2, _, by omega, rfl, by omega, by omega, hide (by rw [HX.out]; exact (prog_step s t k)), hide (by rw [prog_snoc, ← HX.out]; exact R3.out)⟩
      case measure => simp [intOf]; omega
    · have hkn : k = n := by
        rcases Nat.lt_or_ge k n with h | h
        · have := H1.out k h; rw [← HX.out] at this; omega
        · omega
      subst hkn
      go_wp2
      go_ret
      exact ⟨_, A, c, vs, rfl, HR.out.arr, SlIn.of_own HR.out.own, HR.out.obj, HR.out.bel⟩

set_option maxHeartbeats 2000000 in
theorem build_down (s p t : Int) (n : Nat) (w : World) (hs : s ≤ 9223372036854775807) (hp : p < s) (ht : 0 < t) (hm : -9223372036854775808 ≤ p - t) (hn : n ≤ 65536) (h1 : ∀ k : Nat, k < n → p < s + (k : Int) * (-t)) (h2 : s + (n : Int) * (-t) ≤ p) :
    Calls Tryd.prog 9 #[.int .i64 s, .int .i64 p, .int .i64 t] w (RangeArr n (prog s (-t) n) w) := by
  obtain ⟨i, hi, hz0, hz1, hz2⟩ := info_parts info_obj
  have H1 := hide h1
  have H2 := hide h2
  clear h1 h2
  go_enter Tryd.func9, Tryd.ntmps9
  go_wp2
  have R0 : Hid (Rg w (w.alloc (.cells #[.slice none 0 0] 39)) w.heap.size 0 0 none [] (prog s (-t) 0)) := ⟨Blk.new w _ _, World.ownsRow_nil _ _ _ _, Objs.nil _ _, (Below.refl _ _).alloc (Nat.le_refl _) _⟩
  go_loopw [9] (fun ix wr => ∃ (k : Nat) (x : Int) (A : Option Addr) (c : Nat) (vs : List Value), k ≤ n ∧ ix = .int .i64 x ∧ x ≤ s ∧ -9223372036854775808 ≤ x ∧ Hid (x = s + (k : Int) * (-t)) ∧ Hid (Rg w wr w.heap.size k c A vs (prog s (-t) k))) (fun ix _ => (intOf ix - p).toNat)
  case atStart => exact ⟨0, s, none, 0, [], Nat.zero_le _, rfl, Int.le_refl _, by omega, hide (by simp), R0⟩
  case round =>
    obtain ⟨k, x, A, c, vs, hk, rfl, hx1, hx2, HX, HR⟩ := hrel
    clear R0
    by_cases hlt : p < x
    · have hkn : k < n := lt_of_prog_down ht (HX.out ▸ hlt) H2.out
      have hbz := HR.out.bel.size
      have hc := HR.out.arr.at (i := 0) (v := .slice A k c) rfl
      have hlb := HR.out.arr.lt
      go_wp2_with (at_builtin; refine wpList_append_in _ rfl _ _ 37 37 rfl w.heap.size 23 23 i .nilIface 16 Tryd.underlying37 Tryd.underlying37 hi hz0 hz1 hz2 rfl _ k vs rfl ((HR.out.own.alloc _).alloc _) (wr.heap.size + 1 + 1) (some ⟨wr.heap.size + 1, 0, none⟩) 1 1 [.iface 28 (.pointer (some ⟨wr.heap.size, 0, none⟩))] rfl (one_at wr x) (by simp [Value.oneCell']) (by unfold maxLen; omega) (by omega) (by simp; omega) ?_; intro A2 c2 w2 hown2 hgrow2; have R2 := HR.out.snoc (Nat.le_refl _) hown2 hgrow2; have r1 := R2.1; have r2 := R2.2.1; have R3 := hide R2.2.2; clear R2 hown2 hgrow2)
      go_roundw
      case rel => exact ⟨k + 1, x - t, A2, c2, _, by omega, rfl, by omega, by omega, hide (by rw [HX.out]; rw [Int.sub_eq_add_neg]; exact (prog_step s (-t) k)), hide (by rw [prog_snoc, ← HX.out]; exact R3.out)⟩
      case measure => simp [intOf]; omega
    · have hkn : k = n := by
        rcases Nat.lt_or_ge k n with h | h
        · have := H1.out k h; rw [← HX.out] at this; omega
        · omega
      subst hkn
      go_wp2
      go_ret
      exact ⟨_, A, c, vs, rfl, HR.out.arr, SlIn.of_own HR.out.own, HR.out.obj, HR.out.bel⟩
end Go.Proofs.YtdcafjjglgceaaaDoor
