/- The contract of the helper that joins two slices of bytes into a new one: what comes back lies in new memory and holds the first's bytes, then the second's; nothing that was there has turned. Condition: lengths of at most 2^40. -/
import Derived.Test.YtokibffjabomhaaDoorProg
import Derived.Test.YtokibffjabomhaaDoorBase
import Derived.Test.YtokibffjabomhaaDoorClone
import Derived.Handy
import Derived.WalkLawsBesides
import Derived.WalkSpells
namespace Go.Proofs.YtokibffjabomhaaDoor
open Go.RowKit

theorem take_snoc {zs : List UInt8} {k : Nat} {x : UInt8} (h : zs[k]? = some x) : (zs.take k).map bt ++ [bt x] = (zs.take (k + 1)).map bt := by
  rw [List.take_add_one, h]; simp

theorem one_new (w : World) (v : Value) (t : TypeId) : ∀ j u, [v][j]? = some u → (w.alloc (.cells #[v] t)).cell? ((⟨w.heap.size, 0, none⟩ : Addr).add j) = some u := by
  intro j u hj
  match j, hj with
  | 0, hj => simp at hj; subst hj; simp [Addr.add]

theorem one_bt (x : UInt8) : ∀ u ∈ [Value.int .u8 (x.toNat : Int)], u.oneCell' = true := by
  intro u hu; simp at hu; subst hu; rfl

/-- What one append of the joining loop leaves. -/
theorem cat_step {w wr w1 : World} {B E cap k : Nat} {o : Obj} {xs : List Value} {u : Value} (hb : Below B w wr) (hB : B ≤ wr.heap.size)
    (hown : w1.ownsRow B E 1 (.slice (some ⟨B, 0, none⟩) (k + 1) cap) (k + 1) (xs ++ [u])) (hg : (wr.alloc o).grownBy w1 (some B)) : w1.ownsRow B E 1 (.slice (some ⟨B, 0, none⟩) (k + 1) cap) (k + 1) (xs ++ [u]) ∧ Below B w w1 :=
  ⟨hown, (hb.alloc hB o).grown hg (by simp; omega) (fun k hk => by cases hk; exact Nat.le_refl _)⟩

set_option maxHeartbeats 1000000 in
theorem cat_any (A A' : Option Addr) (n c m d : Nat) (xs ys : List UInt8) (w : World) (h : SlIn w w.heap.size A n c (xs.map bt)) (h' : SlIn w w.heap.size A' m d (ys.map bt)) (hn : n ≤ 1099511627776) (hm : m ≤ 1099511627776) :
    Calls Tryd.prog 8 #[.slice A n c, .slice A' m d] w (Made 5 (n + m) ((xs ++ ys).map bt) w) := by
  obtain ⟨i, hi, hz0, hz1, hz2⟩ := info_parts info_u8
  have HS := hide h
  have HT := hide h'
  have HX := hide h.size
  have HY := hide h'.size
  clear h h'
  go_enter Tryd.func8, Tryd.ntmps8
  go_wp2_with (at_make; refine wpList_make_own _ rfl _ _ 22 rfl w.heap.size 5 i (.int .u8 0) 1 Tryd.underlying22 hi hz0 hz1 _ _ _ (n + m) rfl rfl (by simp) (by rw [hz2]; omega) (by unfold maxLen; omega) (Nat.le_refl _) ?_; intro w1 hown1 hgrow1)
  have HO := hide hown1
  have HB := hide ((Below.refl w.heap.size w).grown hgrow1 (Nat.le_refl _) (fun k hk => by cases hk))
  have HZ := hide (Nat.lt_of_lt_of_le (hown1.lt w.heap.size rfl).2 (Nat.le_refl _))
  clear hown1 hgrow1
  go_wp2
  go_loopw [5, 6] (fun v ix wr => ∃ k : Nat, k ≤ n ∧ ix = .int .i64 k ∧ v = .slice (some ⟨w.heap.size, 0, none⟩) k (n + m) ∧ Hid (wr.ownsRow w.heap.size 5 1 (.slice (some ⟨w.heap.size, 0, none⟩) k (n + m)) k ((xs.take k).map bt)) ∧ Hid (Below w.heap.size w wr)) (fun _ ix _ => n - (intOf ix).toNat)
  case atStart => exact ⟨0, Nat.zero_le _, rfl, rfl, HO, HB⟩
  case round =>
    obtain ⟨k, hk, rfl, rfl, HOr, HBr⟩ := hrel
    clear HO HB HZ
    have hsz : w.heap.size < wr.heap.size := (HOr.out.lt w.heap.size rfl).2
    by_cases hlt : k < n
    · obtain ⟨b, off, x, rfl, hb, hx, hc⟩ := HS.out.byte hlt
      have hcell : wr.cell? ⟨b, off + k, none⟩ = some (.int .u8 (x.toNat : Int)) := (HBr.out.cell hb).trans hc
      have HXk := hide hx
      clear hc hx
      go_wp2_with (at_builtin; refine wpList_append_fits _ rfl _ _ 22 rfl w.heap.size 5 i 1 Tryd.underlying22 hi hz1 w.heap.size k (n + m) ((xs.take k).map bt) rfl (HOr.out.alloc _) ⟨wr.heap.size, 0, none⟩ 1 1 [.int .u8 (x.toNat : Int)] rfl rfl (one_new _ _ _) (one_bt x) (by omega) ?_; intro w2 hown2 hgrow2)
      have R := hide (cat_step HBr.out (Nat.le_of_lt hsz) hown2 hgrow2)
      clear hown2 hgrow2 hcell hsz
      go_wp2
      go_roundw
      case rel => exact ⟨k + 1, by omega, by go_num, rfl, by have := R.out.1; rw [take_snoc HXk.out] at this; exact this, R.out.2⟩
      case measure => simp [intOf]; omega
    · have : k = n := by omega
      subst this
      have HO1 : Hid (wr.ownsRow w.heap.size 5 1 (.slice (some ⟨w.heap.size, 0, none⟩) (k + 0) (k + m)) (k + 0) (xs.map bt ++ (ys.take 0).map bt)) := by
        have := HOr.out
        rw [List.take_of_length_le (by rw [HX.out]; exact Nat.le_refl _)] at this
        simpa [Hid] using this
      clear HOr hsz
      go_wp2
      obtain ⟨wo, rfl⟩ : ∃ wo : World, wo = wr := ⟨_, rfl⟩
      go_loopw [5, 7] (fun v ix wr => ∃ j : Nat, j ≤ m ∧ ix = .int .i64 j ∧ v = .slice (some ⟨w.heap.size, 0, none⟩) (k + j) (k + m) ∧ Hid (wr.ownsRow w.heap.size 5 1 (.slice (some ⟨w.heap.size, 0, none⟩) (k + j) (k + m)) (k + j) (xs.map bt ++ (ys.take j).map bt)) ∧ Hid (Below w.heap.size w wr)) (fun _ ix _ => m - (intOf ix).toNat)
      case atStart => exact ⟨0, Nat.zero_le _, rfl, rfl, HO1, HBr⟩
      case round =>
        obtain ⟨j, hj, rfl, rfl, HOs, HBs⟩ := hrel
        clear HO1 HBr
        have hsz : w.heap.size < wr.heap.size := (HOs.out.lt w.heap.size rfl).2
        by_cases hlt2 : j < m
        · obtain ⟨b, off, x, rfl, hb, hx, hc⟩ := HT.out.byte hlt2
          have hcell : wr.cell? ⟨b, off + j, none⟩ = some (.int .u8 (x.toNat : Int)) := (HBs.out.cell hb).trans hc
          have HXk := hide hx
          clear hc hx
          go_wp2_with (at_builtin; refine wpList_append_fits _ rfl _ _ 22 rfl w.heap.size 5 i 1 Tryd.underlying22 hi hz1 w.heap.size (k + j) (k + m) (xs.map bt ++ (ys.take j).map bt) rfl (HOs.out.alloc _) ⟨wr.heap.size, 0, none⟩ 1 1 [.int .u8 (x.toNat : Int)] rfl rfl (one_new _ _ _) (one_bt x) (by omega) ?_; intro w2 hown2 hgrow2)
          have R := hide (cat_step HBs.out (Nat.le_of_lt hsz) hown2 hgrow2)
          clear hown2 hgrow2 hcell hsz
          go_wp2
          go_roundw
          case rel => exact ⟨j + 1, by omega, by go_num, rfl, by have := R.out.1; rw [List.append_assoc, take_snoc HXk.out] at this; exact this, R.out.2⟩
          case measure => simp [intOf]; omega
        · have : j = m := by omega
          subst this
          go_wp2
          go_ret
          have ho := HOs.out
          rw [List.take_of_length_le (by rw [HY.out]; exact Nat.le_refl _), ← List.map_append] at ho
          exact ⟨_, _, rfl, ho, HBs.out⟩
end Go.Proofs.YtokibffjabomhaaDoor
