/- The contract of the helper that joins a slice of bytes and a string into a new slice: what comes back lies in new memory and holds the first's bytes, then the string's; nothing that was there has turned. Condition: lengths of at most 2^40. -/
import Derived.Test.YtegidggehpbkmaaDoorProg
import Derived.Test.YtegidggehpbkmaaDoorBase
import Derived.Test.YtegidggehpbkmaaDoorClone
import Derived.Test.YtegidggehpbkmaaDoorCat
import Derived.Handy
import Derived.WalkLawsBesides
import Derived.WalkSpells
namespace Go.Proofs.YtegidggehpbkmaaDoor
open Go.RowKit

set_option maxHeartbeats 1000000 in
theorem catStr_any (A : Option Addr) (n c : Nat) (xs : List UInt8) (s : ByteArray) (w : World) (h : SlIn w w.heap.size A n c (xs.map bt)) (hn : n ≤ 1099511627776) (hm : s.size ≤ 1099511627776) :
    Calls Tryd.prog 11 #[.slice A n c, .string s] w (Made 5 (n + s.size) ((xs ++ s.data.toList).map bt) w) := by
  obtain ⟨i, hi, hz0, hz1, hz2⟩ := info_parts info_u8
  have HS := hide h
  have HX := hide h.size
  have HY : Hid (s.data.toList.length = s.size) := Array.length_toList
  clear h
  go_enter Tryd.func11, Tryd.ntmps11
  go_wp2_with (at_make; refine wpList_make_own _ rfl _ _ 22 rfl w.heap.size 5 i (.int .u8 0) 1 Tryd.underlying22 hi hz0 hz1 _ _ _ (n + s.size) rfl rfl (by simp) (by rw [hz2]; omega) (by unfold maxLen; omega) (Nat.le_refl _) ?_; intro w1 hown1 hgrow1)
  have HO := hide hown1
  have HB := hide ((Below.refl w.heap.size w).grown hgrow1 (Nat.le_refl _) (fun k hk => by cases hk))
  have HZ := hide (Nat.lt_of_lt_of_le (hown1.lt w.heap.size rfl).2 (Nat.le_refl _))
  clear hown1 hgrow1
  go_wp2
  go_loopw [5, 6] (fun v ix wr => ∃ k : Nat, k ≤ n ∧ ix = .int .i64 k ∧ v = .slice (some ⟨w.heap.size, 0, none⟩) k (n + s.size) ∧ Hid (wr.ownsRow w.heap.size 5 1 (.slice (some ⟨w.heap.size, 0, none⟩) k (n + s.size)) k ((xs.take k).map bt)) ∧ Hid (Below w.heap.size w wr)) (fun _ ix _ => n - (intOf ix).toNat)
  case atStart => exact ⟨0, Nat.zero_le _, rfl, rfl, HO, HB⟩
  case round =>
    obtain ⟨k, hk, rfl, rfl, HOr, HBr⟩ := hrel
    clear HO HB HZ
    have hsz : w.heap.size < wr.heap.size := (HOr.out.lt w.heap.size rfl).2
    by_cases hlt : k < n
    · obtain ⟨b, off, x, rfl, hb, hx, hc⟩ := HS.out.byte hlt
      have hcell : wr.cell? ⟨b, off + k, none⟩ = some (.int .u8 (x.toNat : Int)) := (HBr.out.cell hb).trans hc
      have HXk := hide hx
      clear hc hx
      go_wp2_with (at_builtin; refine wpList_append_fits _ rfl _ _ 22 rfl w.heap.size 5 i 1 Tryd.underlying22 hi hz1 w.heap.size k (n + s.size) ((xs.take k).map bt) rfl (HOr.out.alloc _) ⟨wr.heap.size, 0, none⟩ 1 1 [.int .u8 (x.toNat : Int)] rfl rfl (one_new _ _ _) (one_bt x) (by omega) ?_; intro w2 hown2 hgrow2)
      have R := hide (cat_step HBr.out (Nat.le_of_lt hsz) hown2 hgrow2)
      clear hown2 hgrow2 hcell hsz
      go_wp2
      go_roundw
      case rel => exact ⟨k + 1, by omega, by go_num, rfl, by have := R.out.1; rw [take_snoc HXk.out] at this; exact this, R.out.2⟩
      case measure => simp [intOf]; omega
    · have : k = n := by omega
      subst this
      have HO1 : Hid (wr.ownsRow w.heap.size 5 1 (.slice (some ⟨w.heap.size, 0, none⟩) (k + 0) (k + s.size)) (k + 0) (xs.map bt ++ (s.data.toList.take 0).map bt)) := by
        have := HOr.out
        rw [List.take_of_length_le (by rw [HX.out]; exact Nat.le_refl _)] at this
        simpa [Hid] using this
      clear HOr hsz
      go_wp2
      obtain ⟨wo, rfl⟩ : ∃ wo : World, wo = wr := ⟨_, rfl⟩
      go_loopw [5, 7] (fun v ix wr => ∃ j : Nat, j ≤ s.size ∧ ix = .int .i64 j ∧ v = .slice (some ⟨w.heap.size, 0, none⟩) (k + j) (k + s.size) ∧ Hid (wr.ownsRow w.heap.size 5 1 (.slice (some ⟨w.heap.size, 0, none⟩) (k + j) (k + s.size)) (k + j) (xs.map bt ++ (s.data.toList.take j).map bt)) ∧ Hid (Below w.heap.size w wr)) (fun _ ix _ => s.size - (intOf ix).toNat)
      case atStart => exact ⟨0, Nat.zero_le _, rfl, rfl, HO1, HBr⟩
      case round =>
        obtain ⟨j, hj, rfl, rfl, HOs, HBs⟩ := hrel
        clear HO1 HBr
        have hsz : w.heap.size < wr.heap.size := (HOs.out.lt w.heap.size rfl).2
        by_cases hlt2 : j < s.size
        · have HXk : Hid (s.data.toList[j]? = some s[j]) := by
            have hl : j < s.data.toList.length := by rw [HY.out]; exact hlt2
            show s.data.toList[j]? = some s[j]
            rw [List.getElem?_eq_getElem hl]; rfl
          go_wp2_with (at_builtin; refine wpList_append_fits _ rfl _ _ 22 rfl w.heap.size 5 i 1 Tryd.underlying22 hi hz1 w.heap.size (k + j) (k + s.size) (xs.map bt ++ (s.data.toList.take j).map bt) rfl (HOs.out.alloc _) ⟨wr.heap.size, 0, none⟩ 1 1 [.int .u8 (s[j].toNat : Int)] rfl rfl (one_new _ _ _) (one_bt s[j]) (by omega) ?_; intro w2 hown2 hgrow2)
          have R := hide (cat_step HBs.out (Nat.le_of_lt hsz) hown2 hgrow2)
          clear hown2 hgrow2 hsz
          go_wp2
          go_roundw
          case rel => exact ⟨j + 1, by omega, by go_num, rfl, by have := R.out.1; rw [List.append_assoc, take_snoc HXk.out] at this; exact this, R.out.2⟩
          case measure => simp [intOf]; omega
        · have hjs : j = s.size := by omega
          have ho := HOs.out
          rw [hjs, List.take_of_length_le (by rw [HY.out]; exact Nat.le_refl _), ← List.map_append] at ho
          have HO3 := hide ho
          have hjs2 := hide hjs
          clear ho hjs
          go_wp2
          go_ret
          exact ⟨some ⟨w.heap.size, 0, none⟩, k + s.size, by rw [← hjs2.out]; rfl, HO3.out, HBs.out⟩
end Go.Proofs.YtegidggehpbkmaaDoor
