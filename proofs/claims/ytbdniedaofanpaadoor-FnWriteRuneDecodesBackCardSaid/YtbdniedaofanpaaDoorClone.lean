/- The contract of the helper that makes a fresh copy of a slice of bytes by the built-in copy: nil where the slice is nil, else in new memory with the same bytes; nothing that was there has turned. Condition: at most 2^40 elements. -/
import Derived.Test.YtbdniedaofanpaaDoorProg
import Derived.Test.YtbdniedaofanpaaDoorBase
import Derived.Handy
import Derived.Laws.CopyOwn
import Derived.WalkLawsBesides
import Derived.WalkSpells
namespace Go.Proofs.YtbdniedaofanpaaDoor
open Go.RowKit

theorem info_u8 : (Tryd.prog.info? 5).map (fun i => (i.zero, i.size, i.bytes)) = some (some (.int .u8 0), 1, 1) := by kernel_rfl
theorem size_u8 : (Tryd.prog.info? 5).map (·.size) = some 1 := by kernel_rfl

/-- The call hands back a slice of n elements that owns xs from base on; below base nothing has turned. -/
def Grew (base : Nat) (E : TypeId) (n : Nat) (xs : List Value) (w : World) (e : Ending) (w' : World) : Prop :=
  ∃ A c, e = .returned (.slice A n c) ∧ w'.ownsRow base E 1 (.slice A n c) n xs ∧ Below base w w'

/-- The same in new memory. -/
def Made (E : TypeId) (n : Nat) (xs : List Value) (w : World) (e : Ending) (w' : World) : Prop := Grew w.heap.size E n xs w e w'

theorem own_full {w : World} {B E g n : Nat} {xs : List Value} (h : w.ownsRow B E 1 (.slice (some ⟨g, 0, none⟩) n n) n xs) : w.heap[g]? = some (.cells xs.toArray E (0, 0)) := by
  rcases h.2 with ⟨h', _⟩ | ⟨g', cap, cur, h', hb, hg, _, _, hcs, htake⟩
  · simp at h'
  · simp only [Value.slice.injEq, Option.some.injEq, Addr.mk.injEq, and_true, true_and] at h'
    obtain ⟨rfl, rfl⟩ := h'
    have hcur : cur = xs.toArray := by
      rw [← htake, List.take_of_length_le (by rw [Array.length_toList, hcs]; exact Nat.le_refl _)]
    rw [hg, hcur]

theorem own_cells {w : World} {B E g n : Nat} {xs : List Value} (hB : B ≤ g) (hn : n ≤ maxLen) (hl : xs.length = n) (hg : w.heap[g]? = some (.cells xs.toArray E (0, 0))) : w.ownsRow B E 1 (.slice (some ⟨g, 0, none⟩) n n) n xs :=
  ⟨by rw [hl, Nat.mul_one], .inr ⟨g, n, xs.toArray, rfl, hB, hg, Nat.le_refl _, hn, by simp [hl], by simp [← hl]⟩⟩

theorem splice_all {cur cs : List Value} (h : cs.length = cur.length) : splice cur 0 cs = cs := by
  unfold splice
  rw [List.take_zero, List.nil_append, List.drop_of_length_le (by omega), List.append_nil]

theorem copy_ready {w w1 : World} {A : Option Addr} {n c E : Nat} {zs : List UInt8} {cur : List Value} (hS : SlIn w w.heap.size A n c (zs.map bt)) (hown : w1.ownsRow w.heap.size E 1 (.slice (some ⟨w.heap.size, 0, none⟩) n n) n cur) (hg : w.grownBy w1 none) :
    w1.heap[w.heap.size]? = some (.cells cur.toArray E (0, 0)) ∧ (zs.map bt).length = Nat.min n n ∧ (∀ ad, A = some ad → ∀ j v, (zs.map bt)[j]? = some v → w1.cell? (ad.add j) = some v) ∧ 0 + (zs.map bt).length ≤ cur.length ∧ Below w.heap.size w w1 := by
  have hB := (Below.refl w.heap.size w).grown hg (Nat.le_refl _) (fun k hk => by cases hk)
  refine ⟨own_full hown, by rw [hS.len]; simp, fun ad hA j v hj => ?_, ?_, hB⟩
  · obtain ⟨b, off, e, hb, hc⟩ := hS.cells j v hj
    rw [hA] at e
    obtain rfl : ad = ⟨b, off, none⟩ := Option.some.inj e
    rw [Addr.add_lit]
    exact (hB.cell (p := ⟨b, off + j, none⟩) hb).trans hc
  · have := hown.1
    rw [hS.len]; omega

set_option maxHeartbeats 1000000 in
theorem clone_any (A : Option Addr) (n c : Nat) (zs : List UInt8) (w : World) (h : SlIn w w.heap.size A n c (zs.map bt)) (hn : n ≤ 1099511627776) :
    Calls Tryd.prog 8 #[.slice A n c] w (Made 5 n (zs.map bt) w) := by
  obtain ⟨i, hi, hz0, hz1, hz2⟩ := info_parts info_u8
  have HS := hide h
  have hle := h.le
  have heq := fun (w : World) (A : Option Addr) (n c : Nat) => Lib.run_eql_slice_nil (P := Tryd.prog) w 22 5 A n c 0 0 Tryd.underlying22
  cases A with
  | none =>
    obtain ⟨rfl, rfl⟩ := h.isNil rfl
    obtain rfl : zs = [] := List.eq_nil_of_length_eq_zero h.size
    clear h
    go_enter Tryd.func8, Tryd.ntmps8
    go_wp2
    go_ret
    exact ⟨none, 0, rfl, World.ownsRow_nil _ _ _ _, Below.refl _ _⟩
  | some ad =>
    clear h
    obtain ⟨cs, hcs⟩ : ∃ cs, cs = zs.map bt := ⟨_, rfl⟩
    have HC := hide hcs
    have HN : Hid (cs.length = n) := by show cs.length = n; rw [hcs]; exact HS.out.len
    clear hcs
    go_enter Tryd.func8, Tryd.ntmps8
    have made := fun (w1 : World) (hown1 : w1.ownsRow w.heap.size 5 1 (.slice (some ⟨w.heap.size, 0, none⟩) n n) n (madeCells (Value.int .u8 0).cells (n * 1)).toList) (hgrow1 : w.grownBy w1 none) => copy_ready (zs := zs) HS.out hown1 hgrow1
    have HMD := hide made
    clear made
    go_wp2_with (first | (at_make; refine wpList_make_full _ rfl _ _ 22 rfl w.heap.size 5 i (.int .u8 0) 1 Tryd.underlying22 hi hz0 hz1 _ _ _ _ n rfl rfl (by simp) (by simp) (by rw [hz2]; omega) (by unfold maxLen; omega) (Nat.le_refl _) ?_; intro w1 hown1 hgrow1; have R := hide (HMD.out w1 hown1 hgrow1); clear hown1 hgrow1) | (with_reducible refine wpList_copy_splice rfl (.tmp 9) (.tmp 10) 22 22 rfl 5 Tryd.underlying22 size_u8 _ _ _ _ _ _ rfl rfl w.heap.size 0 _ 5 R.out.1 cs (by rw [HC.out]; exact R.out.2.1) (by rw [HC.out]; exact fun _ => ⟨rfl, ad, rfl, R.out.2.2.1 ad rfl⟩) (by rw [HC.out]; exact R.out.2.2.2.1) (by rw [HC.out]; exact bts_one zs) w.heap.size w R.out.2.2.2.2 (Nat.le_refl _) ?_; intro w2 HG2 hB2; have HB2 := hide hB2; clear hB2))
    go_ret
    have hg2 := HG2.out
    rw [splice_all (by rw [HN.out]; simp [madeCells]), HC.out] at hg2
    exact ⟨_, _, rfl, own_cells (Nat.le_refl _) (by unfold maxLen; omega) HS.out.len hg2, HB2.out⟩
end Go.Proofs.YtbdniedaofanpaaDoor
