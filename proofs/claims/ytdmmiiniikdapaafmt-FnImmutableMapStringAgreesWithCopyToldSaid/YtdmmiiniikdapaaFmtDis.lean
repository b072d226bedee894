/- zzDistinct: where it finds at most one key, all keys are one. Conditions: at most 4096 keys and numbers. -/
import Derived.Test.YtdmmiiniikdapaaFmtCloneS
import Derived.Handy
import Derived.Outline
import Derived.WalkLawsBesides
import Derived.WalkSpells
import Derived.Deep.QuietTactic
import Derived.BigQuiet
import Derived.RegionTactic
import Derived.OwnWalk
set_option linter.unusedSimpArgs false
namespace Go.Proofs.YtdmmiiniikdapaaFmt
open Go.RowKit

/-- The first k strings are one and the same. -/
def Same (zs : List ByteArray) (k : Nat) : Prop := ∀ a b s t, a < k → b < k → zs[a]? = some s → zs[b]? = some t → s = t
/-- What cn keys found among the first k say. -/
def Cnt (zs : List ByteArray) (k cn : Nat) : Prop := (cn = 0 → k = 0) ∧ (cn ≤ 1 → Same zs k)
theorem Cnt.zero (zs : List ByteArray) : Cnt zs 0 0 := ⟨fun _ => rfl, fun _ a b s t h => by omega⟩
theorem Cnt.more {zs : List ByteArray} {k cn : Nat} (h : Cnt zs k cn) : Cnt zs (k + 1) (cn + 1) := by
  refine ⟨fun h0 => by omega, fun h1 a b s t ha hb hs ht => ?_⟩
  have := h.1 (by omega)
  subst this
  obtain rfl : a = 0 := by omega
  obtain rfl : b = 0 := by omega
  rw [hs] at ht
  exact Option.some.inj ht
theorem Cnt.old {zs : List ByteArray} {k cn j : Nat} {x : ByteArray} (h : Cnt zs k cn) (hj : j < k) (hx : zs[j]? = some x) (hk : zs[k]? = some x) : Cnt zs (k + 1) cn := by
  refine ⟨fun h0 => by have := h.1 h0; omega, fun h1 a b s t ha hb hs ht => ?_⟩
  have hS := h.2 h1
  have key : ∀ a s, a < k + 1 → zs[a]? = some s → s = x := by
    intro a s ha hs
    by_cases e : a = k
    · subst e; rw [hk] at hs; exact (Option.some.inj hs).symm
    · exact hS a j s x (by omega) hj hs hx
  rw [key a s ha hs, key b t hb ht]

structure Dst (zs : List ByteArray) (w wr : World) (g1 g2 N k cn : Nat) (xs1 xs2 : List Value) : Prop where
  o1 : wr.ownsRow w.heap.size 9 1 (.slice (some ⟨g1, 0, none⟩) cn N) cn xs1
  o2 : wr.ownsRow w.heap.size 2 1 (.slice (some ⟨g2, 0, none⟩) cn N) cn xs2
  bel : Below w.heap.size w wr
  le : cn ≤ k
  cnt : Cnt zs k cn
theorem Dst.drewN {zs : List ByteArray} {w wr : World} {g1 g2 N k cn : Nat} {xs1 xs2 : List Value} (h : Dst zs w wr g1 g2 N k cn xs1 xs2) (q : Nat) : Dst zs w (wr.drewN q) g1 g2 N k cn xs1 xs2 := ⟨h.o1, h.o2, h.bel.trans ⟨rfl, rfl, rfl, Nat.le_refl _, fun _ _ => rfl⟩, h.le, h.cnt⟩

def DisOut (zs : List ByteArray) (N : Nat) (w : World) (e : Ending) (w' : World) : Prop := ∃ A1 n1 c1 A2 n2 c2, e = .returned (.tuple #[.slice A1 n1 c1, .slice A2 n2 c2]) ∧ (n1 ≤ 1 → Same zs N) ∧ n1 ≤ 4096 ∧ Below w.heap.size w w'

set_option maxRecDepth 100000 in
set_option maxHeartbeats 4000000 in
theorem distinct_lt (A : Option Addr) (m c : Nat) (zs : List ByteArray) (B : Option Addr) (l d : Nat) (xs : List Int) (w : World) (h : SlIn w w.heap.size A m c (zs.map Value.string)) (h' : SlIn w w.heap.size B l d (xs.map (Value.int .i64))) (hm : m ≤ 4096) (hl : l ≤ 4096) (hc : l < m) :
    Calls Tryf.prog 11 #[.slice A m c, .slice B l d] w (DisOut zs l w) := by
  obtain ⟨i0, hi, hz0, hz1, hz2⟩ := info_parts info_str
  obtain ⟨i1, hj, hy0, hy1, hy2⟩ := info_parts info_i64
  have HS := hide h
  have HT := hide h'
  clear h h'
  go_enter Tryf.func11, Tryf.ntmps11
  go_wp2_with (first
    | (at_make; refine wpList_make_own _ rfl _ _ 22 rfl w.heap.size 9 i0 (.string ByteArray.empty) 1 Tryf.underlying22 hi hz0 hz1 _ _ _ l rfl rfl (by simp) (by rw [hz2]; omega) (by unfold maxLen; omega) (Nat.le_refl _) ?_; intro w1 hown1 hgrow1; have O1 := hide hown1; have G1 := hide hgrow1; clear hown1 hgrow1)
    | (at_make; refine wpList_make_own _ rfl _ _ 23 rfl w.heap.size 2 i1 (.int .i64 0) 1 Tryf.underlying23 hj hy0 hy1 _ _ _ l rfl rfl (by simp) (by rw [hy2]; omega) (by unfold maxLen; omega) (G1.out.size) ?_; intro w2 hown2 hgrow2; have O2 := hide hown2; have G2 := hide hgrow2; clear hown2 hgrow2))
  have hgg : w.heap.size < w1.heap.size := (O1.out.lt w.heap.size rfl).2
  generalize hg2 : w1.heap.size = g2 at O2 hgg ⊢
  have D0 : Hid (Dst zs w w2 w.heap.size g2 l 0 0 [] []) := ⟨O1.out.kept G2.out (by right; simp [Value.ownBlock]), O2.out, ((Below.refl _ _).grown G1.out (Nat.le_refl _) (fun k hk => by cases hk)).grown G2.out (by omega) (fun k hk => by cases hk), Nat.le_refl _, Cnt.zero zs⟩
  clear O1 G1 O2 G2
  clear hg2
  go_loopw [7, 8, 9] (fun v1 v2 ix wr => ∃ (k cn : Nat) (xs1 xs2 : List Value), k ≤ l ∧ ix = .int .i64 k ∧ v1 = .slice (some ⟨w.heap.size, 0, none⟩) cn l ∧ v2 = .slice (some ⟨g2, 0, none⟩) cn l ∧ Hid (Dst zs w wr w.heap.size g2 l k cn xs1 xs2)) (fun _ _ ix _ => l - (intOf ix).toNat)
  case atStart => exact ⟨0, 0, [], [], Nat.zero_le _, rfl, rfl, rfl, D0⟩
  case round =>
    obtain ⟨k, cn, xs1, xs2, hk, rfl, rfl, rfl, M⟩ := hrel
    clear D0
    obtain ⟨wo, rfl⟩ : ∃ wo : World, wo = wr := ⟨_, rfl⟩
    by_cases hlt : k < l
    · have SW := hide (HS.out.below M.out.bel (Nat.le_refl _))
      have TW := hide (HT.out.below M.out.bel (Nat.le_refl _))
      obtain ⟨b, off, x, hA, hb, hx, hcx⟩ := SW.out.str (show k < m by omega)
      obtain ⟨b', off', y, hB, hb', hy, hcy⟩ := TW.out.num (show k < l by omega)
      subst hA hB
      have hbz := M.out.bel.size
      have HX := hide hx
      clear hx hy
      go_wp2
      go_loopw [10, 11] (fun fs jx w2 => ∃ (j q : Nat), j ≤ k ∧ fs = .bool true ∧ jx = .int .i64 j ∧ w2 = wo.drewN q) (fun _ jx _ => k - (intOf jx).toNat)
      case atStart => exact ⟨0, 0, Nat.zero_le _, rfl, rfl, rfl⟩
      case round =>
        obtain ⟨j, q, hjk, rfl, rfl, rfl⟩ := hrel
        by_cases hjl : j < k
        · obtain ⟨b2, off2, y, hA2, hb2, hy, hcj⟩ := SW.out.str (show j < m by omega)
          obtain ⟨rfl, rfl, _⟩ : b = b2 ∧ off = off2 ∧ True := by
            have := Option.some.inj hA2
            simp only [Addr.mk.injEq] at this
            exact ⟨this.1, this.2.1, trivial⟩
          have HY := hide hy
          clear hy hA2 hb2
          by_cases hxy : y = x
          · subst hxy
            have heq : (y.toList == y.toList) = true := by simp
            have M2 := hide (show Dst zs w wo w.heap.size g2 l (k + 1) cn xs1 xs2 from ⟨M.out.o1, M.out.o2, M.out.bel, Nat.le_succ_of_le M.out.le, M.out.cnt.old hjl HY.out HX.out⟩)
            go_wp2
            go_quiet (fail)
            go_wp2
            go_roundw
            case rel => exact ⟨k + 1, cn, xs1, xs2, by omega, by go_num, rfl, rfl, M2.out.drewN _⟩
            case measure => simp [intOf]; omega
          · have heq : (y.toList == x.toList) = false := by
              rw [beq_eq_false_iff_ne, ByteArray.toList_eq, ByteArray.toList_eq]
              intro e
              exact hxy (ByteArray.ext (by simpa using e))
            go_wp2
            go_quiet (fail)
            go_wp2
            go_roundw
            case rel => exact ⟨j + 1, _, by omega, rfl, by go_num, rfl⟩
            case measure => simp [intOf]; omega
        · go_wp2
          go_loopw [12, 13] (fun vv jx w3 => ∃ (j q : Nat) (z : Int), j ≤ l ∧ vv = .int .i64 z ∧ jx = .int .i64 j ∧ w3 = wo.drewN q) (fun _ jx _ => l - (intOf jx).toNat)
          case atStart => exact ⟨k + 1, q, y, by omega, rfl, by go_num, rfl⟩
          case round =>
            obtain ⟨i, q, z, hil, rfl, rfl, rfl⟩ := hrel
            by_cases hjl : i < l
            · obtain ⟨b2, off2, y2, hA2, hb2, hy, hcj⟩ := SW.out.str (show i < m by omega)
              obtain ⟨rfl, rfl, _⟩ : b = b2 ∧ off = off2 ∧ True := by
                have := Option.some.inj hA2
                simp only [Addr.mk.injEq] at this
                exact ⟨this.1, this.2.1, trivial⟩
              obtain ⟨b3, off3, z2, hA3, hb3, hz, hcz⟩ := TW.out.num (show i < l by omega)
              obtain ⟨rfl, rfl, _⟩ : b' = b3 ∧ off' = off3 ∧ True := by
                have := Option.some.inj hA3
                simp only [Addr.mk.injEq] at this
                exact ⟨this.1, this.2.1, trivial⟩
              clear hy hA2 hb2 hA3 hb3 hz
              obtain ⟨tb, heq⟩ : ∃ tb, (y2.toList == x.toList) = tb := ⟨_, rfl⟩
              cases tb with
              | true =>
                go_wp2
                go_quiet (fail)
                go_wp2
                go_roundw
                case rel => exact ⟨i + 1, _, z2, by omega, rfl, by go_num, rfl⟩
                case measure => simp [intOf]; omega
              | false =>
                go_wp2
                go_quiet (fail)
                go_wp2
                go_roundw
                case rel => exact ⟨i + 1, _, z, by omega, rfl, by go_num, rfl⟩
                case measure => simp [intOf]; omega
            · have MQ := hide (M.out.drewN q)
              go_wp2_with (first
                | (at_builtin; refine wpList_append_fits _ rfl _ _ 22 rfl w.heap.size 9 i0 1 Tryf.underlying22 hi hz1 w.heap.size cn l xs1 rfl (MQ.out.o1.alloc _) ⟨wo.heap.size, 0, none⟩ 1 1 [.string x] rfl rfl (cell_one_new _ _ _) (fun u hu => by simp at hu; subst hu; rfl) (by have := M.out.le; omega) ?_; intro w4 hown4 hgrow4; have O4 := hide hown4; have G4 := hide hgrow4; clear hown4 hgrow4)
                | (at_builtin; refine wpList_append_fits _ rfl _ _ 23 rfl w.heap.size 2 i1 1 Tryf.underlying23 hj hy1 g2 cn l xs2 rfl (((MQ.out.o2.alloc _).kept G4.out (by right; simp [Value.ownBlock]; omega)).alloc _) ⟨w4.heap.size, 0, none⟩ 1 1 [.int .i64 z] rfl rfl (cell_one_new _ _ _) (fun u hu => by simp at hu; subst hu; rfl) (by have := M.out.le; omega) ?_; intro w5 hown5 hgrow5; have O5 := hide hown5; have G5 := hide hgrow5; clear hown5 hgrow5))
              have B4 := hide ((MQ.out.bel.alloc MQ.out.bel.size (.cells #[.string x] 9)).grown G4.out (by have := MQ.out.bel.size; simp at this ⊢; omega) (fun g hg => by cases hg; exact Nat.le_refl _))
              have M5 : Hid (Dst zs w w5 w.heap.size g2 l (k + 1) (cn + 1) (xs1 ++ [.string x]) (xs2 ++ [.int .i64 z])) :=
                ⟨(O4.out.alloc _).kept G5.out (by right; simp [Value.ownBlock]; omega), O5.out, (B4.out.alloc B4.out.size _).grown G5.out (by have := B4.out.size; simp; omega) (fun g hg => by cases hg; omega), by have := M.out.le; omega, M.out.cnt.more⟩
              go_roundw
              case rel => exact ⟨k + 1, cn + 1, _, _, by omega, by go_num, by go_num, by go_num, M5⟩
              case measure => simp [intOf]; omega
    · go_wp2
      go_ret2
      have hk2 : k = l := by omega
      have hc2 := M.out.cnt.2
      have hc3 := M.out.le
      rw [hk2] at hc2
      exact ⟨_, cn, _, _, cn, _, rfl, hc2, by omega, M.out.bel⟩
set_option maxRecDepth 100000 in
set_option maxHeartbeats 4000000 in
theorem distinct_ge (A : Option Addr) (m c : Nat) (zs : List ByteArray) (B : Option Addr) (l d : Nat) (xs : List Int) (w : World) (h : SlIn w w.heap.size A m c (zs.map Value.string)) (h' : SlIn w w.heap.size B l d (xs.map (Value.int .i64))) (hm : m ≤ 4096) (hl : l ≤ 4096) (hc : ¬ l < m) :
    Calls Tryf.prog 11 #[.slice A m c, .slice B l d] w (DisOut zs m w) := by
  obtain ⟨i0, hi, hz0, hz1, hz2⟩ := info_parts info_str
  obtain ⟨i1, hj, hy0, hy1, hy2⟩ := info_parts info_i64
  have HS := hide h
  have HT := hide h'
  clear h h'
  go_enter Tryf.func11, Tryf.ntmps11
  go_wp2_with (first
    | (at_make; refine wpList_make_own _ rfl _ _ 22 rfl w.heap.size 9 i0 (.string ByteArray.empty) 1 Tryf.underlying22 hi hz0 hz1 _ _ _ m rfl rfl (by simp) (by rw [hz2]; omega) (by unfold maxLen; omega) (Nat.le_refl _) ?_; intro w1 hown1 hgrow1; have O1 := hide hown1; have G1 := hide hgrow1; clear hown1 hgrow1)
    | (at_make; refine wpList_make_own _ rfl _ _ 23 rfl w.heap.size 2 i1 (.int .i64 0) 1 Tryf.underlying23 hj hy0 hy1 _ _ _ m rfl rfl (by simp) (by rw [hy2]; omega) (by unfold maxLen; omega) (G1.out.size) ?_; intro w2 hown2 hgrow2; have O2 := hide hown2; have G2 := hide hgrow2; clear hown2 hgrow2))
  have hgg : w.heap.size < w1.heap.size := (O1.out.lt w.heap.size rfl).2
  generalize hg2 : w1.heap.size = g2 at O2 hgg ⊢
  have D0 : Hid (Dst zs w w2 w.heap.size g2 m 0 0 [] []) := ⟨O1.out.kept G2.out (by right; simp [Value.ownBlock]), O2.out, ((Below.refl _ _).grown G1.out (Nat.le_refl _) (fun k hk => by cases hk)).grown G2.out (by omega) (fun k hk => by cases hk), Nat.le_refl _, Cnt.zero zs⟩
  clear O1 G1 O2 G2
  clear hg2
  go_loopw [7, 8, 9] (fun v1 v2 ix wr => ∃ (k cn : Nat) (xs1 xs2 : List Value), k ≤ m ∧ ix = .int .i64 k ∧ v1 = .slice (some ⟨w.heap.size, 0, none⟩) cn m ∧ v2 = .slice (some ⟨g2, 0, none⟩) cn m ∧ Hid (Dst zs w wr w.heap.size g2 m k cn xs1 xs2)) (fun _ _ ix _ => m - (intOf ix).toNat)
  case atStart => exact ⟨0, 0, [], [], Nat.zero_le _, rfl, rfl, rfl, D0⟩
  case round =>
    obtain ⟨k, cn, xs1, xs2, hk, rfl, rfl, rfl, M⟩ := hrel
    clear D0
    obtain ⟨wo, rfl⟩ : ∃ wo : World, wo = wr := ⟨_, rfl⟩
    by_cases hlt : k < m
    · have SW := hide (HS.out.below M.out.bel (Nat.le_refl _))
      have TW := hide (HT.out.below M.out.bel (Nat.le_refl _))
      obtain ⟨b, off, x, hA, hb, hx, hcx⟩ := SW.out.str (show k < m by omega)
      obtain ⟨b', off', y, hB, hb', hy, hcy⟩ := TW.out.num (show k < l by omega)
      subst hA hB
      have hbz := M.out.bel.size
      have HX := hide hx
      clear hx hy
      go_wp2
      go_loopw [10, 11] (fun fs jx w2 => ∃ (j q : Nat), j ≤ k ∧ fs = .bool true ∧ jx = .int .i64 j ∧ w2 = wo.drewN q) (fun _ jx _ => k - (intOf jx).toNat)
      case atStart => exact ⟨0, 0, Nat.zero_le _, rfl, rfl, rfl⟩
      case round =>
        obtain ⟨j, q, hjk, rfl, rfl, rfl⟩ := hrel
        by_cases hjl : j < k
        · obtain ⟨b2, off2, y, hA2, hb2, hy, hcj⟩ := SW.out.str (show j < m by omega)
          obtain ⟨rfl, rfl, _⟩ : b = b2 ∧ off = off2 ∧ True := by
            have := Option.some.inj hA2
            simp only [Addr.mk.injEq] at this
            exact ⟨this.1, this.2.1, trivial⟩
          have HY := hide hy
          clear hy hA2 hb2
          by_cases hxy : y = x
          · subst hxy
            have heq : (y.toList == y.toList) = true := by simp
            have M2 := hide (show Dst zs w wo w.heap.size g2 m (k + 1) cn xs1 xs2 from ⟨M.out.o1, M.out.o2, M.out.bel, Nat.le_succ_of_le M.out.le, M.out.cnt.old hjl HY.out HX.out⟩)
            go_wp2
            go_quiet (fail)
            go_wp2
            go_roundw
            case rel => exact ⟨k + 1, cn, xs1, xs2, by omega, by go_num, rfl, rfl, M2.out.drewN _⟩
            case measure => simp [intOf]; omega
          · have heq : (y.toList == x.toList) = false := by
              rw [beq_eq_false_iff_ne, ByteArray.toList_eq, ByteArray.toList_eq]
              intro e
              exact hxy (ByteArray.ext (by simpa using e))
            go_wp2
            go_quiet (fail)
            go_wp2
            go_roundw
            case rel => exact ⟨j + 1, _, by omega, rfl, by go_num, rfl⟩
            case measure => simp [intOf]; omega
        · go_wp2
          go_loopw [12, 13] (fun vv jx w3 => ∃ (j q : Nat) (z : Int), j ≤ m ∧ vv = .int .i64 z ∧ jx = .int .i64 j ∧ w3 = wo.drewN q) (fun _ jx _ => m - (intOf jx).toNat)
          case atStart => exact ⟨k + 1, q, y, by omega, rfl, by go_num, rfl⟩
          case round =>
            obtain ⟨i, q, z, hil, rfl, rfl, rfl⟩ := hrel
            by_cases hjl : i < m
            · obtain ⟨b2, off2, y2, hA2, hb2, hy, hcj⟩ := SW.out.str (show i < m by omega)
              obtain ⟨rfl, rfl, _⟩ : b = b2 ∧ off = off2 ∧ True := by
                have := Option.some.inj hA2
                simp only [Addr.mk.injEq] at this
                exact ⟨this.1, this.2.1, trivial⟩
              obtain ⟨b3, off3, z2, hA3, hb3, hz, hcz⟩ := TW.out.num (show i < l by omega)
              obtain ⟨rfl, rfl, _⟩ : b' = b3 ∧ off' = off3 ∧ True := by
                have := Option.some.inj hA3
                simp only [Addr.mk.injEq] at this
                exact ⟨this.1, this.2.1, trivial⟩
              clear hy hA2 hb2 hA3 hb3 hz
              obtain ⟨tb, heq⟩ : ∃ tb, (y2.toList == x.toList) = tb := ⟨_, rfl⟩
              cases tb with
              | true =>
                go_wp2
                go_quiet (fail)
                go_wp2
                go_roundw
                case rel => exact ⟨i + 1, _, z2, by omega, rfl, by go_num, rfl⟩
                case measure => simp [intOf]; omega
              | false =>
                go_wp2
                go_quiet (fail)
                go_wp2
                go_roundw
                case rel => exact ⟨i + 1, _, z, by omega, rfl, by go_num, rfl⟩
                case measure => simp [intOf]; omega
            · have MQ := hide (M.out.drewN q)
              go_wp2_with (first
                | (at_builtin; refine wpList_append_fits _ rfl _ _ 22 rfl w.heap.size 9 i0 1 Tryf.underlying22 hi hz1 w.heap.size cn m xs1 rfl (MQ.out.o1.alloc _) ⟨wo.heap.size, 0, none⟩ 1 1 [.string x] rfl rfl (cell_one_new _ _ _) (fun u hu => by simp at hu; subst hu; rfl) (by have := M.out.le; omega) ?_; intro w4 hown4 hgrow4; have O4 := hide hown4; have G4 := hide hgrow4; clear hown4 hgrow4)
                | (at_builtin; refine wpList_append_fits _ rfl _ _ 23 rfl w.heap.size 2 i1 1 Tryf.underlying23 hj hy1 g2 cn m xs2 rfl (((MQ.out.o2.alloc _).kept G4.out (by right; simp [Value.ownBlock]; omega)).alloc _) ⟨w4.heap.size, 0, none⟩ 1 1 [.int .i64 z] rfl rfl (cell_one_new _ _ _) (fun u hu => by simp at hu; subst hu; rfl) (by have := M.out.le; omega) ?_; intro w5 hown5 hgrow5; have O5 := hide hown5; have G5 := hide hgrow5; clear hown5 hgrow5))
              have B4 := hide ((MQ.out.bel.alloc MQ.out.bel.size (.cells #[.string x] 9)).grown G4.out (by have := MQ.out.bel.size; simp at this ⊢; omega) (fun g hg => by cases hg; exact Nat.le_refl _))
              have M5 : Hid (Dst zs w w5 w.heap.size g2 m (k + 1) (cn + 1) (xs1 ++ [.string x]) (xs2 ++ [.int .i64 z])) :=
                ⟨(O4.out.alloc _).kept G5.out (by right; simp [Value.ownBlock]; omega), O5.out, (B4.out.alloc B4.out.size _).grown G5.out (by have := B4.out.size; simp; omega) (fun g hg => by cases hg; omega), by have := M.out.le; omega, M.out.cnt.more⟩
              go_roundw
              case rel => exact ⟨k + 1, cn + 1, _, _, by omega, by go_num, by go_num, by go_num, M5⟩
              case measure => simp [intOf]; omega
    · go_wp2
      go_ret2
      have hk2 : k = m := by omega
      have hc2 := M.out.cnt.2
      have hc3 := M.out.le
      rw [hk2] at hc2
      exact ⟨_, cn, _, _, cn, _, rfl, hc2, by omega, M.out.bel⟩
theorem distinct_any (A : Option Addr) (m c : Nat) (zs : List ByteArray) (B : Option Addr) (l d : Nat) (xs : List Int) (w : World) (h : SlIn w w.heap.size A m c (zs.map Value.string)) (h' : SlIn w w.heap.size B l d (xs.map (Value.int .i64))) (hm : m ≤ 4096) (hl : l ≤ 4096) :
    Calls Tryf.prog 11 #[.slice A m c, .slice B l d] w (DisOut zs (min m l) w) := by
  by_cases hc : l < m
  · rw [show min m l = l by omega]
    exact distinct_lt A m c zs B l d xs w h h' hm hl hc
  · rw [show min m l = m by omega]
    exact distinct_ge A m c zs B l d xs w h h' hm hl hc
end Go.Proofs.YtdmmiiniikdapaaFmt
