/- Maps of Ints behind interface values: what they are in memory, the map's maker, and the copy of an immutable map. Conditions: at most 4096 entries. -/
import Derived.Test.YtdmmiiniikdapaaBlk
import Derived.Test.YtdmmiiniikdapaaCloneS
import Derived.Outline
import Derived.Deep.QuietTactic
import Derived.BigQuiet
import Derived.RegionTactic
import Derived.ChangeAlike
import Derived.Maps.Own
import Derived.Maps.OwnSet
import Derived.Maps.OwnOps
import Derived.Maps.RangeWalk
import Derived.StringKeys
import Derived.Sort.EncStr
namespace Go.Proofs.Ytdmmiiniikdapaa
open Go.RowKit

theorem law9 : Maps.Keyed Try.prog 9 := Maps.string_keyed Try.underlying9

/-- An element reads as the number of its Int's block. -/
def elemR (v : Value) : Option (DataW Unit × List MemPlace) :=
  match v with
  | .iface t (.pointer (some a)) => if t = 33 ∧ a.off = 0 ∧ a.spot = none then some (.lit (.int .i64 (a.block : Int)), []) else none
  | _ => none
/-- The Int object in block b. -/
def mkV (b : Nat) : Value := .iface 33 (.pointer (some ⟨b, 0, none⟩))
theorem elemR_mk (b : Nat) : elemR (mkV b) = some (.lit (.int .i64 (b : Int)), []) := by simp [elemR, mkV]
theorem elemR_mk' (b : Nat) : elemR (.iface 33 (.pointer (some ⟨b, 0, none⟩))) = some (.lit (.int .i64 (b : Int)), []) := by simp [elemR]
theorem elemR_inv {v : Value} {y : DataW Unit × List MemPlace} (h : elemR v = some y) : ∃ b, v = mkV b := by
  unfold elemR at h
  split at h
  · rename_i t a
    split at h
    · rename_i hc
      obtain ⟨rfl, h0, h1⟩ := hc
      obtain ⟨bl, off, sp⟩ := a
      simp at h0 h1
      subst h0 h1
      exact ⟨bl, rfl⟩
    · cases h
  · cases h

/-- Each element of the map is an Int in memory. -/
def IntsIn (w : World) (D : DataW Unit) : Prop := ∀ (kl : Lit) (b : Nat), (∀ z, D.atKey kl z = .lit (.int .i64 (b : Int))) → ∃ x, Blk w b #[.int .i64 x] 37
theorem IntsIn.empty (w : World) : IntsIn w (.map []) := fun kl b h => by
  have := h .nil
  simp [DataW.atKey] at this
theorem IntsIn.put {w : World} {D : DataW Unit} {k : Lit} {b : Nat} {x : Int} (h : IntsIn w D) (hD : Maps.IsMap D) (hk : WideAt.IsKeyLit k) (hb : Blk w b #[.int .i64 x] 37) : IntsIn w (D.put k (.lit (.int .i64 (b : Int)))) := by
  intro kl c hc
  by_cases e : kl = k
  · subst e
    have := hc .nil
    rw [Maps.atKey_put_same hD hk] at this
    have e2 : (b : Int) = (c : Int) := by simpa using this
    obtain rfl : b = c := by omega
    exact ⟨x, hb⟩
  · exact h kl c fun z => by rw [← hc z, Maps.atKey_put_other e]
theorem IntsIn.keep {w w' : World} {D : DataW Unit} (h : IntsIn w D) (hk : ∀ b x, Blk w b #[.int .i64 x] 37 → Blk w' b #[.int .i64 x] 37) : IntsIn w' D := fun kl b hb => by
  obtain ⟨x, hx⟩ := h kl b hb
  exact ⟨x, hk b x hx⟩
theorem IntsIn.below {w w' : World} {D : DataW Unit} (h : IntsIn w D) (hb : Below w.heap.size w w') : IntsIn w' D := h.keep fun _ _ hx => hx.below hb hx.lt

/-- An immutable map in memory. -/
structure IM (w : World) (ob bm n : Nat) (D : DataW Unit) : Prop where
  obj : w.cell? ⟨ob, 0, none⟩ = some (.map (some bm))
  lt : ob < w.heap.size
  map : w.ownsMap Try.prog 9 elemR bm n D
  le : n ≤ 4096
  ints : IntsIn w D

def NewIM (w : World) (e : Ending) (w' : World) : Prop := ∃ ob bm n D, e = .returned (.pointer (some ⟨ob, 0, none⟩)) ∧ IM w' ob bm n D ∧ Below w.heap.size w w'

/-- The map after k rounds. -/
structure Mk (w wr : World) (bm k : Nat) (D : DataW Unit) : Prop where
  map : wr.ownsMap Try.prog 9 elemR bm k D
  isMap : Maps.IsMap D
  ints : IntsIn wr D
  bel : Below w.heap.size w wr

set_option maxHeartbeats 2000000 in
theorem map_any (A : Option Addr) (m c : Nat) (zs : List ByteArray) (B : Option Addr) (l d : Nat) (xs : List Int) (w : World) (h : SlIn w w.heap.size A m c (zs.map Value.string)) (h' : SlIn w w.heap.size B l d (xs.map (Value.int .i64))) (hz : ∀ s ∈ zs, s.size ≤ maxLen) (hm : m ≤ 4096) (hl : l ≤ 4096) :
    Calls Try.prog 8 #[.slice A m c, .slice B l d] w (NewIM w) := by
  have HS := hide h
  have HT := hide h'
  have HZ := hide hz
  clear h h' hz
  have hmm := @run_makeMap Try.prog
  go_enter Try.func8, Try.ntmps8
  go_wp2
  have M0 : Hid (Mk w (w.alloc (.map #[] 0)) w.heap.size 0 (.map [])) := ⟨World.ownsMap_made _ _ _ _, Maps.isMap_empty, IntsIn.empty _, (Below.refl _ _).alloc (Nat.le_refl _) _⟩
  go_loopw [6] (fun ix wr => ∃ (k : Nat) (D : DataW Unit), k ≤ m ∧ k ≤ l ∧ ix = .int .i64 k ∧ Hid (Mk w wr w.heap.size k D)) (fun ix _ => m - (intOf ix).toNat)
  case atStart => exact ⟨0, _, Nat.zero_le _, Nat.zero_le _, rfl, M0⟩
  case round =>
    obtain ⟨k, D, hk, hkl, rfl, M⟩ := hrel
    clear M0
    by_cases hlt : k < m
    · by_cases hlt2 : k < l
      · obtain ⟨b, off, x, hA, hb, hx, hc⟩ := (HS.out.below M.out.bel (Nat.le_refl _)).str hlt
        obtain ⟨b', off', y, hA', hb', hy, hc'⟩ := (HT.out.below M.out.bel (Nat.le_refl _)).num hlt2
        subst hA hA'
        have hkey := WideMaps.keyOf_string_mk Try.underlying9 (HZ.out x (List.mem_of_getElem? hx))
        have hbz := M.out.bel.size
        have l1 : b < wr.heap.size := Nat.lt_of_lt_of_le hb hbz
        have l2 : b' < wr.heap.size := Nat.lt_of_lt_of_le hb' hbz
        obtain ⟨w5, hrun, hown5, hg5⟩ := ((M.out.map.alloc (.cells #[.int .i64 y] 37)).drew).update law9 Try.underlying32 (by unfold maxLen; omega) hkey (elemR_mk' wr.heap.size)
        have M5 : Hid (Mk w w5 w.heap.size (k + 1) (D.put (.string x.data.toList) (.lit (.int .i64 (wr.heap.size : Int))))) := by
          have hblk : Blk (wr.alloc (.cells #[.int .i64 y] 37)).drew wr.heap.size #[.int .i64 y] 37 := Blk.new wr _ _
          have hin : IntsIn (wr.alloc (.cells #[.int .i64 y] 37)).drew D := M.out.ints.keep fun _ _ hb => (hb.alloc _).drew
          have hmb : ∀ (b : Nat) (z : Int), Blk (wr.alloc (.cells #[.int .i64 y] 37)).drew b #[.int .i64 z] 37 → Blk w5 b #[.int .i64 z] 37 := fun b z hb => hb.of_eq (hg5.block b hb.lt (fun e => by
            have e2 : b = w.heap.size := by injection e
            subst e2
            obtain ⟨es, cl, hh, _⟩ := (M.out.map.alloc (.cells #[.int .i64 y] 37)).drew
            unfold Blk at hb
            rw [hh] at hb
            cases hb))
          exact ⟨hown5, M.out.isMap.put _ _, (hin.put M.out.isMap (show WideAt.IsKeyLit (.string x.data.toList) from trivial) hblk).keep hmb, ((M.out.bel.alloc hbz _).drew).grown hg5 (by simp; omega) (fun g hg => by cases hg; exact Nat.le_refl _)⟩
        clear hown5 hg5 hkey hx hy
        go_wp2
        go_region
        go_wp2
        go_roundw
        case rel => exact ⟨k + 1, _, by omega, by omega, by go_num, M5⟩
        case measure => simp [intOf]; omega
      · go_wp2
        go_ret
        refine ⟨wr.heap.size, w.heap.size, k, D, rfl, ⟨(Blk.new wr _ _).at rfl, by simp, M.out.map.alloc _, by omega, M.out.ints.keep fun _ _ hb => hb.alloc _⟩, M.out.bel.alloc M.out.bel.size _⟩
    · go_wp2
      go_ret
      refine ⟨wr.heap.size, w.heap.size, k, D, rfl, ⟨(Blk.new wr _ _).at rfl, by simp, M.out.map.alloc _, by omega, M.out.ints.keep fun _ _ hb => hb.alloc _⟩, M.out.bel.alloc M.out.bel.size _⟩
end Go.Proofs.Ytdmmiiniikdapaa
