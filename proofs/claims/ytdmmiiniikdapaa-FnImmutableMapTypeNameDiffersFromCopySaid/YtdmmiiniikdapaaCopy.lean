/- The copy of an immutable map of Ints: a map object in new memory; nothing that was there has turned. -/
import Derived.Test.YtdmmiiniikdapaaMap
namespace Go.Proofs.Ytdmmiiniikdapaa
open Go.RowKit

/-- A map object comes back. -/
def NewMap (w : World) (e : Ending) (w' : World) : Prop := ∃ x, e = .returned (.iface 43 (.pointer (some ⟨x, 0, none⟩))) ∧ Below w.heap.size w w'

theorem invK (key : Value) (kl : Lit) (h : keyOf Try.prog 9 key = some kl) : ∃ x, key = encStr x := by
  obtain ⟨s, rfl, _⟩ := WideMaps.string_of_keyOf Try.underlying9 h
  exact ⟨s.data.toList, by simp [encStr]⟩

set_option maxHeartbeats 4000000 in
theorem copy_any (ob bm n : Nat) (D : DataW Unit) (w : World) (h : IM w ob bm n D) : Calls Try.prog 11 #[.pointer (some ⟨ob, 0, none⟩)] w (NewMap w) := by
  have HI := hide h
  have c0 := h.obj
  have l0 := h.lt
  have hbm := h.map.lt
  have hle := h.le
  clear h
  have hmm := @run_makeMap Try.prog
  go_enter Try.func11, Try.ntmps11
  go_wp2_with (at_range; refine wpList_range_own _ rfl _ 32 rfl 9 39 law9 Try.underlying32 elemR bm n D rfl (HI.out.map.alloc _) ?_; intro w0 hrg0 hg0 hs0; have R0 := hide hrg0; have G0 := hide hg0; clear hrg0 hg0 hs0)
  go_frame
  have C0 : Hid (w0.ownsMap Try.prog 9 elemR w.heap.size 0 (.map [])) := (World.ownsMap_made w Try.prog 9 elemR).kept G0.out (by simp)
  have B0 : Hid (Below w.heap.size w w0) := ((Below.refl w.heap.size w).alloc (Nat.le_refl _) _).grown G0.out (by simp) (fun k hk => by cases hk)
  have hsz := HI.out.map.size_le
  have HR := hide (show (w.alloc (Obj.map #[] 0)).heap.size = w.heap.size + 1 by simp)
  generalize (w.alloc (Obj.map #[] 0)).heap.size = r at R0 HR ⊢
  go_loopw [12] (fun _ wr => ∃ (left : Lit → Bool) (cnt m : Nat) (Dc : DataW Unit), m + cnt ≤ 4096 ∧ Hid (wr.ranges Try.prog 9 elemR bm r n D left cnt) ∧ Hid (wr.ownsMap Try.prog 9 elemR w.heap.size m Dc) ∧ Hid (Below w.heap.size w wr)) (fun _ wr => wr.rangeLeft bm r)
  case atStart => exact ⟨Maps.has D, Maps.size D, 0, .map [], by omega, R0, C0, B0⟩
  case round =>
    obtain ⟨left, cnt, m, Dc, hmc, R, C, B⟩ := hrel
    clear R0 G0 C0 B0 hsz
    go_wp2_with (at_next; refine wpList_next_ranges _ rfl _ rfl 9 law9 elemR encStr mkV invK (fun v y hv => elemR_inv hv) bm r n _ _ _ rfl R.out ?_ ?_)
    · intro hc0 hl0
      clear hl0
      go_wp2
      go_ret
      exact ⟨_, rfl, B.out.alloc B.out.size _⟩
    · intro x c kl yd yp w1 cnt1 hkey hlk hv hat hrg1 hlt hg1 hs1 hen
      have HY : Hid (yd = .lit (.int .i64 (c : Int))) := by
        rw [elemR_mk] at hv
        have := Option.some.inj hv
        exact ((Prod.mk.inj this).1).symm
      obtain ⟨x0, hx0⟩ := HI.out.ints kl c (fun z => (hat z).trans HY.out)
      have hcl := hx0.lt
      have B1 := hide (B.out.grown hg1 B.out.size (fun g hg => by cases hg; have := HR.out; omega))
      have K1 := hide (hx0.below B1.out hcl)
      have hci := K1.out.at (i := 0) (v := .int .i64 x0) rfl
      have C1 := hide (C.out.kept hg1 (by intro e; injection e with e; have := HR.out; omega))
      have R1 := hide hrg1
      have HK := hide hkey
      have hz1 := B1.out.size
      have hzr : r < w1.heap.size := R1.out.lt
      clear hkey hlk hv hat hrg1 hg1 hs1 hx0
      unfold mkV at hen ⊢
      go_wp2_with (first | (go_at_call 29; go_in) | (at_mapUpdate; refine wpList_mapUpdate_own _ rfl _ _ _ 32 rfl 9 39 law9 Try.underlying32 elemR w.heap.size m _ rfl (C1.out.alloc _) (by unfold maxLen; omega) _ _ _ rfl rfl HK.out _ [] (elemR_mk' _) ?_; intro w5 hown5 hgrow5; have C5 := hide hown5; have G5 := hide hgrow5; clear hown5 hgrow5))
      go_frame
      go_roundw
      case rel => exact ⟨_, cnt1, m + 1, _, by omega, hide ((R1.out.alloc _).kept G5.out (by intro e; injection e with e; omega) (by intro e; injection e with e; have := HR.out; omega)), C5, hide ((B1.out.alloc hz1 _).grown G5.out (by simp; omega) (fun g hg => by cases hg; exact Nat.le_refl _))⟩
      case measure =>
        have e1 := ((R1.out.alloc (.cells #[.int .i64 x0] 37)).kept G5.out (by intro e; injection e with e; omega) (by intro e; injection e with e; have := HR.out; omega)).left_eq
        rw [e1, R.out.left_eq]
        exact hlt
end Go.Proofs.Ytdmmiiniikdapaa
