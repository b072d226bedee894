/- formatter.writePadding: behind the call the buffer owns what it owned and, behind that, the padding bytes. Conditions: the formatter and its buffer are the caller's own; lengths of at most 2^22. -/
import Derived.Test.YtibndpnoeoajaaaDoorFmS
import Derived.Laws.CopyOwn
import Derived.RegionTactic
namespace Go.Proofs.YtibndpnoeoajaaaDoor
open Go.RowKit

section
variable {w : World} {base E g n cap : Nat} {xs : List Value}
theorem own_of_cells {cur : Array Value} (hb : base ≤ g) (hg : w.heap[g]? = some (.cells cur E (0, 0))) (hc : cur.size = cap) (hm : cap ≤ maxLen) (hn : n ≤ cap) : w.ownsRow base E 1 (.slice (some ⟨g, 0, none⟩) n cap) n (cur.toList.take n) :=
  ⟨by simp; omega, .inr ⟨g, cap, cur, rfl, hb, hg, by omega, hm, by simpa using hc, by simp⟩⟩
theorem own_snoc (h : w.ownsRow base E 1 (.slice (some ⟨g, 0, none⟩) n cap) n xs) (hn : n < cap) (u : Value) : (w.setCell ⟨g, n, none⟩ u).ownsRow base E 1 (.slice (some ⟨g, 0, none⟩) (n + 1) cap) (n + 1) (xs ++ [u]) := by
  have hl := h.1
  rcases h.2 with ⟨h', _⟩ | ⟨g', cap', cur, h', hb, hg, hnc, hcm, hcs, htake⟩
  · simp at h'
  · simp only [Value.slice.injEq, Option.some.injEq, Addr.mk.injEq, and_true, true_and] at h'
    obtain ⟨rfl, rfl⟩ := h'
    refine ⟨by simp; omega, .inr ⟨g, cap, cur.setIfInBounds n u, rfl, hb, heap_setCell_same w g n cur E u hg, by omega, hcm, by simpa using hcs, ?_⟩⟩
    have hx : cur.toList.take n = xs := by rw [Nat.mul_one] at htake; exact htake
    have hlen : n < cur.toList.length := by rw [Array.length_toList, hcs]; omega
    rw [Nat.mul_one, Array.toList_setIfInBounds, List.take_add_one, List.take_set, List.set_eq_of_length_le (by rw [hx]; omega), hx, List.getElem?_set_self hlen]
    rfl

theorem own_spare (h : w.ownsRow base E 1 (.slice (some ⟨g, 0, none⟩) n cap) n xs) {k : Nat} (hk : k < cap) : (∃ u, w.cell? ⟨g, k, none⟩ = some u) ∧ w.frozen? ⟨g, k, none⟩ = false := by
  rcases h.2 with ⟨h', _⟩ | ⟨g', cap', cur, h', hb, hg, hnc, hcm, hcs, htake⟩
  · simp at h'
  · simp only [Value.slice.injEq, Option.some.injEq, Addr.mk.injEq, and_true, true_and] at h'
    obtain ⟨rfl, rfl⟩ := h'
    have hlt : k < cur.size := by omega
    exact ⟨⟨cur[k], by rw [cell_of_row w g k cur E (0, 0) hg]; exact Array.getElem?_eq_getElem hlt⟩, frozen_of_row w g k cur E hg⟩
end
theorem own_cells {w : World} {base E g n cap : Nat} {xs : List Value} (h : w.ownsRow base E 1 (.slice (some ⟨g, 0, none⟩) n cap) n xs) : ∃ cur : List Value, w.heap[g]? = some (.cells cur.toArray E (0, 0)) ∧ cur.length = cap := by
  rcases h.2 with ⟨h', _⟩ | ⟨g', cap', cur, h', hb, hg, hnc, hcm, hcs, htake⟩
  · simp at h'
  · simp only [Value.slice.injEq, Option.some.injEq, Addr.mk.injEq, and_true, true_and] at h'
    obtain ⟨rfl, rfl⟩ := h'
    exact ⟨cur.toList, by simpa using hg, by simpa using hcs⟩
theorem grown_any {w w' : World} (h : w.grownBy w' none) (row : Option Nat) : w.grownBy w' row := ⟨h.os, h.tape, h.output, h.size, fun k hk _ => h.block k hk (by simp)⟩
theorem grown_below {w w' : World} (h : Below w.heap.size w w') (row : Option Nat) : w.grownBy w' row := ⟨h.os, h.tape, h.output, h.size, fun k hk _ => h.block k hk⟩
theorem src_ex {w : World} {B n c : Nat} {A : Option Addr} {xs : List Value} (h : SlIn w B A n c xs) (h0 : 0 < xs.length) : ∃ ad, A = some ad ∧ ∀ j v, xs[j]? = some v → w.cell? (ad.add j) = some v := by
  obtain ⟨b, off, rfl, _, _⟩ := h.cells 0 xs[0] (List.getElem?_eq_getElem h0)
  refine ⟨_, rfl, fun j v hv => ?_⟩
  obtain ⟨b', off', e, _, hc⟩ := h.cells j v hv
  simp only [Option.some.injEq, Addr.mk.injEq, and_true] at e
  obtain ⟨rfl, rfl⟩ := e
  have e2 : (⟨b, off, none⟩ : Addr).add j = ⟨b, off + j, none⟩ := by
    by_cases hj : j = 0 <;> simp [Addr.add, hj]
  rw [e2]
  exact hc
theorem own_spliced {w : World} {base E g n cap : Nat} {xs cur : List Value} (hb : base ≤ g) (hg : w.heap[g]? = some (.cells (splice cur 0 xs).toArray E (0, 0))) (hc : cur.length = cap) (hx : xs.length = n) (hm : cap ≤ maxLen) (hn : n ≤ cap) :
    w.ownsRow base E 1 (.slice (some ⟨g, 0, none⟩) n cap) n xs := by
  have h := own_of_cells (E := E) (n := n) (cap := cap) hb hg (by simp [length_splice cur 0 xs (by omega), hc]) hm hn
  have e : (splice cur 0 xs).toArray.toList.take n = xs := by simp [splice, ← hx]
  rw [e] at h
  exact h
/-- The padding byte. -/
def pby (z : Bool) : UInt8 := if z then 48 else 32
def padL (z : Bool) (m : Nat) : List Value := List.replicate m (bt (pby z))
theorem padL_succ (z : Bool) (m : Nat) : padL z m ++ [bt (pby z)] = padL z (m + 1) := by
  unfold padL; rw [← List.replicate_succ']

theorem Fm.apart {w : World} {fb pb base n c : Nat} {A : Option Addr} {F : Array Value} {xs : List Value} (h : Fm w fb pb base n F xs) (hown : w.ownsRow base 5 1 (.slice A n c) n xs) : some fb ≠ Value.ownBlock (.slice A n c) := by
  intro e
  rcases hown.2 with ⟨h', _⟩ | ⟨g, cap, cur, h', _, hg, _⟩
  · rw [h'] at e
    simp [Value.ownBlock] at e
  · rw [h'] at e
    simp only [Value.ownBlock, Option.some.injEq] at e
    subst e
    rw [h.fm] at hg
    simp only [Option.some.injEq, Obj.cells.injEq] at hg
    exact absurd hg.2.1 (by decide)
theorem Fm.cellOn {w wr : World} {fb pb base n c : Nat} {A : Option Addr} {F : Array Value} {xs : List Value} (h : Fm w fb pb base n F xs) (hown : w.ownsRow base 5 1 (.slice A n c) n xs) (hg : w.grownBy wr (Value.ownBlock (.slice A n c))) {i : Nat} {v : Value} (hv : F[i]? = some v) : wr.cell? ⟨fb, i, none⟩ = some v := by
  have hlt : fb < w.heap.size := (Array.getElem?_eq_some_iff.1 h.fm).1
  rw [cell_of_row wr fb i F _ (0, 0) ((hg.block fb hlt (h.apart hown)).trans h.fm)]; exact hv

def Padded (fb pb base n : Nat) (F : Array Value) (xs : List Value) (w : World) (e : Ending) (w' : World) : Prop := e = .returned (.tuple #[]) ∧ Fm w' fb pb base n F xs ∧ Safe base pb w w'

theorem grown_cell {w wr : World} {g i : Nat} {row : Option Nat} (h : w.grownBy wr row) (hr : row = some g ∨ w.heap.size ≤ g) (u : Value) : w.grownBy (wr.setCell ⟨g, i, none⟩ u) row :=
  ⟨h.os, h.tape, h.output, by simpa [World.setCell] using h.size, fun k hk hne => (heap_setCell_other wr ⟨g, i, none⟩ k _ (by rintro rfl; rcases hr with e | e; exact hne e.symm; omega)).trans (h.block k hk hne)⟩
set_option maxHeartbeats 2000000 in
theorem padding_any (fb pb base n : Nat) (F : Array Value) (xs : List Value) (k : Int) (z : Bool) (w : World) (h : Fm w fb pb base n F xs) (hz : F[7]? = some (.bool z)) (hM : w.cell? ⟨0, 0, none⟩ = some (.int .i64 2147483647)) (hn : n ≤ 8388608) (hk : k ≤ 4194304) (hk0 : -9223372036854775808 ≤ k) (hone : ∀ v ∈ xs, v.oneCell' = true) :
    Calls Tryd.prog 20 #[.pointer (some ⟨fb, 0, none⟩), .int .i64 k] w (Padded fb pb base (n + k.toNat) F (xs ++ padL z k.toNat) w) := by
  have HONE := hide hone
  clear hone
  by_cases hpos : k ≤ 0
  · have e : k.toNat = 0 := by omega
    rw [e]
    have FM := hide h
    clear h
    go_enter Tryd.func20, Tryd.ntmps20
    go_wp2
    go_end0
    exact ⟨rfl, by simpa [padL] using FM.out, Safe.refl _ _ _⟩
  obtain ⟨m, rfl⟩ : ∃ m : Nat, k = (m : Int) := ⟨k.toNat, by omega⟩
  rw [Int.toNat_natCast]
  have f0 := h.cell h.ptr
  have f7 := h.cell hz
  have FM := hide h
  obtain ⟨A, c, hbox, hown⟩ := h.holds
  have hc0 := cell_of_one hbox
  have HX := hide hbox
  have HO := hide hown
  have hcs : n ≤ c := (SlIn.of_own hown).le
  have hct : c ≤ 9223372036854775807 := (SlIn.of_own hown).top
  clear h hbox hown
  by_cases hfit : n + m ≤ c
  · obtain ⟨g, rfl⟩ : ∃ g, A = some ⟨g, 0, none⟩ := by
      rcases HO.out.2 with ⟨h', _⟩ | ⟨g, cap, cur, h', _⟩
      · simp only [Value.slice.injEq] at h'; omega
      · simp only [Value.slice.injEq] at h'; exact ⟨g, h'.1⟩
    have hm0 : 0 < m := by omega
    cases z
    · go_enter Tryd.func20, Tryd.ntmps20
      go_wp2_with fail
      go_loopw [56] (fun ix wr => ∃ j : Nat, j ≤ m ∧ ix = .int .i64 j ∧ Hid (wr.ownsRow base 5 1 (.slice (some ⟨g, 0, none⟩) (n + j) c) (n + j) (xs ++ padL false j)) ∧ Hid (w.grownBy wr (some g))) (fun ix _ => m - (intOf ix).toNat)
      case atStart => exact ⟨0, Nat.zero_le _, rfl, by show World.ownsRow _ _ _ _ _ _ _; simpa [padL] using HO.out, ⟨rfl, rfl, rfl, Nat.le_refl _, fun _ _ _ => rfl⟩⟩
      case round =>
        obtain ⟨j, hj, rfl, HOj, HGj⟩ := hrel
        by_cases hlt : j < m
        · obtain ⟨⟨u, hu⟩, hfz⟩ := own_spare HOj.out (k := n + j) (by omega)
          have R : Hid ((wr.setCell ⟨g, n + j, none⟩ (.int .u8 32)).ownsRow base 5 1 (.slice (some ⟨g, 0, none⟩) (n + (j + 1)) c) (n + (j + 1)) (xs ++ padL false (j + 1))) := by
            have := own_snoc HOj.out (by omega) (bt (pby false))
            rw [List.append_assoc, padL_succ] at this
            exact this
          have G := hide (grown_cell (i := n + j) HGj.out (.inl rfl) (.int .u8 32))
          clear HOj HGj
          go_wp2
          go_roundw
          case rel => exact ⟨j + 1, by omega, by go_num, R, G⟩
          case measure => simp [intOf]; omega
        · obtain rfl : j = m := by omega
          have R := box_stored (by decide) HX.out HO.out (HGj.out) HOj.out
          have r1 := R.1
          have rf := FM.out.cellOn HO.out HGj.out FM.out.ptr
          have r2 := R.2.1
          have HR := hide R.2.2
          clear R
          go_wp2
          go_region
          go_wp2
          go_end0
          have Q := FM.out.wrote HX.out HO.out HR.out.1 HR.out.2
          exact ⟨rfl, Q.1.below ((Below.refl _ _).drew) (Nat.le_refl _), Q.2.drew⟩
    · go_enter Tryd.func20, Tryd.ntmps20
      go_wp2_with fail
      go_loopw [56] (fun ix wr => ∃ j : Nat, j ≤ m ∧ ix = .int .i64 j ∧ Hid (wr.ownsRow base 5 1 (.slice (some ⟨g, 0, none⟩) (n + j) c) (n + j) (xs ++ padL true j)) ∧ Hid (w.grownBy wr (some g))) (fun ix _ => m - (intOf ix).toNat)
      case atStart => exact ⟨0, Nat.zero_le _, rfl, by show World.ownsRow _ _ _ _ _ _ _; simpa [padL] using HO.out, ⟨rfl, rfl, rfl, Nat.le_refl _, fun _ _ _ => rfl⟩⟩
      case round =>
        obtain ⟨j, hj, rfl, HOj, HGj⟩ := hrel
        by_cases hlt : j < m
        · obtain ⟨⟨u, hu⟩, hfz⟩ := own_spare HOj.out (k := n + j) (by omega)
          have R : Hid ((wr.setCell ⟨g, n + j, none⟩ (.int .u8 48)).ownsRow base 5 1 (.slice (some ⟨g, 0, none⟩) (n + (j + 1)) c) (n + (j + 1)) (xs ++ padL true (j + 1))) := by
            have := own_snoc HOj.out (by omega) (bt (pby true))
            rw [List.append_assoc, padL_succ] at this
            exact this
          have G := hide (grown_cell (i := n + j) HGj.out (.inl rfl) (.int .u8 48))
          clear HOj HGj
          go_wp2
          go_roundw
          case rel => exact ⟨j + 1, by omega, by go_num, R, G⟩
          case measure => simp [intOf]; omega
        · obtain rfl : j = m := by omega
          have R := box_stored (by decide) HX.out HO.out (HGj.out) HOj.out
          have r1 := R.1
          have rf := FM.out.cellOn HO.out HGj.out FM.out.ptr
          have r2 := R.2.1
          have HR := hide R.2.2
          clear R
          go_wp2
          go_region
          go_wp2
          go_end0
          have Q := FM.out.wrote HX.out HO.out HR.out.1 HR.out.2
          exact ⟨rfl, Q.1.below ((Below.refl _ _).drew) (Nat.le_refl _), Q.2.drew⟩
  · have hm0 : 0 < m := by omega
    obtain ⟨i, hi, hz0, hz1, hz2⟩ := info_parts info_u8
    have HSZ : Hid ((Tryd.prog.info? 5).map (·.size) = some 1) := by show _ = _; rw [hi]; simp [hz1]
    have PLT : Hid (pb < w.heap.size) := (Array.getElem?_eq_some_iff.1 HX.out).1
    have SX := hide (SlIn.of_own HO.out)
    have HN : Hid (xs.length = Nat.min n (2 * c + m)) := by show _ = _; rw [SX.out.len]; exact (Nat.min_eq_left (by omega)).symm
    have HMX : Hid (2 * c + m ≤ maxLen) := by show _ ≤ _; unfold maxLen; omega
    have HLE : Hid (n ≤ 2 * c + m) := by show _ ≤ _; omega
    cases z
    · go_enter Tryd.func20, Tryd.ntmps20
      go_wp2_with (first | (at_make; refine wpList_make_full _ rfl _ _ 28 rfl base 5 i (.int .u8 0) 1 Tryd.underlying28 hi hz0 hz1 _ _ _ _ (2 * c + m) rfl rfl (by omega) (by omega) (by rw [hz2]; omega) (by unfold maxLen; omega) FM.out.hb ?_; intro w1 hown1 hgrow1; have G1 := hide (grown_any hgrow1 (Value.ownBlock (.slice A n c))); obtain ⟨cur, hcur, hcsz⟩ := own_cells hown1; have HC := hide hcur; have HCS := hide hcsz; have HFIT := hide (show 0 + xs.length ≤ cur.length by rw [SX.out.len, hcsz]; omega); have f01 := FM.out.cellOn HO.out G1.out FM.out.ptr; have hc1 := cell_of_one ((G1.out.block pb PLT.out (own_ne_box (by decide) HX.out HO.out)).trans HX.out); have BW1 := hide ((Below.refl w.heap.size w).grown hgrow1 (Nat.le_refl _) (fun k hk => by cases hk)); have S1 := hide (SX.out.below BW1.out (Nat.le_refl _)); clear hown1 hgrow1 hcur hcsz) | (with_reducible refine wpList_copy_splice rfl (.tmp 37) (.tmp 43) 28 28 rfl 5 Tryd.underlying28 HSZ.out _ _ _ _ _ _ rfl rfl w.heap.size 0 cur 5 HC.out xs HN.out (fun h0 => ⟨rfl, src_ex S1.out h0⟩) HFIT.out HONE.out w.heap.size w BW1.out (Nat.le_refl _) ?_; intro w2 HG2 hB2; have O2 := hide (own_spliced FM.out.hb HG2.out HCS.out SX.out.len HMX.out HLE.out); have G2 := hide (grown_below hB2 (Value.ownBlock (.slice A n c))); have f72 := FM.out.cellOn HO.out G2.out hz; clear hB2))
      go_loopw [56] (fun ix wr => ∃ j : Nat, j ≤ m ∧ ix = .int .i64 j ∧ Hid (wr.ownsRow base 5 1 (.slice (some ⟨w.heap.size, 0, none⟩) (n + j) (2 * c + m)) (n + j) (xs ++ padL false j)) ∧ Hid (w.grownBy wr (Value.ownBlock (.slice A n c)))) (fun ix _ => m - (intOf ix).toNat)
      case atStart => exact ⟨0, Nat.zero_le _, rfl, by show World.ownsRow _ _ _ _ _ _ _; simpa [padL] using O2.out, G2⟩
      case round =>
        obtain ⟨j, hj, rfl, HOj, HGj⟩ := hrel
        by_cases hlt : j < m
        · obtain ⟨⟨u, hu⟩, hfz⟩ := own_spare HOj.out (k := n + j) (by omega)
          have R : Hid ((wr.setCell ⟨w.heap.size, n + j, none⟩ (.int .u8 32)).ownsRow base 5 1 (.slice (some ⟨w.heap.size, 0, none⟩) (n + (j + 1)) (2 * c + m)) (n + (j + 1)) (xs ++ padL false (j + 1))) := by
            have := own_snoc HOj.out (by omega) (bt (pby false))
            rw [List.append_assoc, padL_succ] at this
            exact this
          have G := hide (grown_cell (i := n + j) HGj.out (.inr (Nat.le_refl _)) (.int .u8 32))
          clear HOj HGj
          go_wp2
          go_roundw
          case rel => exact ⟨j + 1, by omega, by go_num, R, G⟩
          case measure => simp [intOf]; omega
        · obtain rfl : j = m := by omega
          have R := box_stored (by decide) HX.out HO.out HGj.out HOj.out
          have r1 := R.1
          have rf := FM.out.cellOn HO.out HGj.out FM.out.ptr
          have r2 := R.2.1
          have HR := hide R.2.2
          clear R
          go_wp2
          go_region
          go_wp2
          go_end0
          have Q := FM.out.wrote HX.out HO.out HR.out.1 HR.out.2
          exact ⟨rfl, Q.1.below ((Below.refl _ _).drew) (Nat.le_refl _), Q.2.drew⟩
    · go_enter Tryd.func20, Tryd.ntmps20
      go_wp2_with (first | (at_make; refine wpList_make_full _ rfl _ _ 28 rfl base 5 i (.int .u8 0) 1 Tryd.underlying28 hi hz0 hz1 _ _ _ _ (2 * c + m) rfl rfl (by omega) (by omega) (by rw [hz2]; omega) (by unfold maxLen; omega) FM.out.hb ?_; intro w1 hown1 hgrow1; have G1 := hide (grown_any hgrow1 (Value.ownBlock (.slice A n c))); obtain ⟨cur, hcur, hcsz⟩ := own_cells hown1; have HC := hide hcur; have HCS := hide hcsz; have HFIT := hide (show 0 + xs.length ≤ cur.length by rw [SX.out.len, hcsz]; omega); have f01 := FM.out.cellOn HO.out G1.out FM.out.ptr; have hc1 := cell_of_one ((G1.out.block pb PLT.out (own_ne_box (by decide) HX.out HO.out)).trans HX.out); have BW1 := hide ((Below.refl w.heap.size w).grown hgrow1 (Nat.le_refl _) (fun k hk => by cases hk)); have S1 := hide (SX.out.below BW1.out (Nat.le_refl _)); clear hown1 hgrow1 hcur hcsz) | (with_reducible refine wpList_copy_splice rfl (.tmp 37) (.tmp 43) 28 28 rfl 5 Tryd.underlying28 HSZ.out _ _ _ _ _ _ rfl rfl w.heap.size 0 cur 5 HC.out xs HN.out (fun h0 => ⟨rfl, src_ex S1.out h0⟩) HFIT.out HONE.out w.heap.size w BW1.out (Nat.le_refl _) ?_; intro w2 HG2 hB2; have O2 := hide (own_spliced FM.out.hb HG2.out HCS.out SX.out.len HMX.out HLE.out); have G2 := hide (grown_below hB2 (Value.ownBlock (.slice A n c))); have f72 := FM.out.cellOn HO.out G2.out hz; clear hB2))
      go_loopw [56] (fun ix wr => ∃ j : Nat, j ≤ m ∧ ix = .int .i64 j ∧ Hid (wr.ownsRow base 5 1 (.slice (some ⟨w.heap.size, 0, none⟩) (n + j) (2 * c + m)) (n + j) (xs ++ padL true j)) ∧ Hid (w.grownBy wr (Value.ownBlock (.slice A n c)))) (fun ix _ => m - (intOf ix).toNat)
      case atStart => exact ⟨0, Nat.zero_le _, rfl, by show World.ownsRow _ _ _ _ _ _ _; simpa [padL] using O2.out, G2⟩
      case round =>
        obtain ⟨j, hj, rfl, HOj, HGj⟩ := hrel
        by_cases hlt : j < m
        · obtain ⟨⟨u, hu⟩, hfz⟩ := own_spare HOj.out (k := n + j) (by omega)
          have R : Hid ((wr.setCell ⟨w.heap.size, n + j, none⟩ (.int .u8 48)).ownsRow base 5 1 (.slice (some ⟨w.heap.size, 0, none⟩) (n + (j + 1)) (2 * c + m)) (n + (j + 1)) (xs ++ padL true (j + 1))) := by
            have := own_snoc HOj.out (by omega) (bt (pby true))
            rw [List.append_assoc, padL_succ] at this
            exact this
          have G := hide (grown_cell (i := n + j) HGj.out (.inr (Nat.le_refl _)) (.int .u8 48))
          clear HOj HGj
          go_wp2
          go_roundw
          case rel => exact ⟨j + 1, by omega, by go_num, R, G⟩
          case measure => simp [intOf]; omega
        · obtain rfl : j = m := by omega
          have R := box_stored (by decide) HX.out HO.out HGj.out HOj.out
          have r1 := R.1
          have rf := FM.out.cellOn HO.out HGj.out FM.out.ptr
          have r2 := R.2.1
          have HR := hide R.2.2
          clear R
          go_wp2
          go_region
          go_wp2
          go_end0
          have Q := FM.out.wrote HX.out HO.out HR.out.1 HR.out.2
          exact ⟨rfl, Q.1.below ((Below.refl _ _).drew) (Nat.le_refl _), Q.2.drew⟩
end Go.Proofs.YtibndpnoeoajaaaDoor
