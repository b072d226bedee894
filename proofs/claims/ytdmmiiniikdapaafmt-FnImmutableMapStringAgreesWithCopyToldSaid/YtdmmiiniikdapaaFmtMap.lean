/- Maps of Ints behind interface values: what they are in memory, the map's maker, and the copy of an immutable map. Conditions: at most 4096 entries. -/
import Derived.Test.YtdmmiiniikdapaaFmtBlk
import Derived.Test.YtdmmiiniikdapaaFmtCloneS
import Derived.Outline
import Derived.Deep.QuietTactic
import Derived.BigQuiet
import Derived.RegionTactic
import Derived.ChangeAlike
import Derived.Maps.Own
import Derived.Maps.OwnSet
import Derived.Maps.OwnOps
import Derived.Maps.RangeWalk
import Derived.StringKeys
import Derived.Sort.EncStr
namespace Go.Proofs.YtdmmiiniikdapaaFmt
open Go.RowKit

theorem law9 : Maps.Keyed Tryf.prog 9 := Maps.string_keyed Tryf.underlying9

/-- An element reads as the number of its Int's block. -/
def elemR (v : Value) : Option (DataW Unit × List MemPlace) :=
  match v with
  | .iface t (.pointer (some a)) => if t = 41 ∧ a.off = 0 ∧ a.spot = none then some (.lit (.int .i64 (a.block : Int)), []) else none
  | _ => none
/-- The Int object in block b. -/
def mkV (b : Nat) : Value := .iface 41 (.pointer (some ⟨b, 0, none⟩))
theorem elemR_mk (b : Nat) : elemR (mkV b) = some (.lit (.int .i64 (b : Int)), []) := by simp [elemR, mkV]
theorem elemR_mk' (b : Nat) : elemR (.iface 41 (.pointer (some ⟨b, 0, none⟩))) = some (.lit (.int .i64 (b : Int)), []) := by simp [elemR]
theorem elemR_inv {v : Value} {y : DataW Unit × List MemPlace} (h : elemR v = some y) : ∃ b, v = mkV b := by
  unfold elemR at h
  split at h
  · rename_i t a
    split at h
    · rename_i hc
      obtain ⟨rfl, h0, h1⟩ := hc
      obtain ⟨bl, off, sp⟩ := a
      simp at h0 h1
      subst h0 h1
      exact ⟨bl, rfl⟩
    · cases h
  · cases h

/-- What a map of Ints holds, key by key. -/
abbrev Vals := List UInt8 → Option Int
def putV (V : Vals) (k : List UInt8) (x : Int) : Vals := fun l => if l = k then some x else V l

/-- Each element of the map is an Int in memory, of the number that V says. -/
def Cont (w : World) (D : DataW Unit) (V : Vals) : Prop :=
  (∀ l x, V l = some x → ∃ b : Nat, (∀ z, D.atKey (.string l) z = .lit (.int .i64 (b : Int))) ∧ Blk w b #[.int .i64 x] 45) ∧ ∀ l, V l = none → Maps.has D (.string l) = false
theorem Cont.empty (w : World) : Cont w (.map []) (fun _ => none) := ⟨fun _ _ h => by (cases h), fun _ _ => rfl⟩
theorem Cont.put {w : World} {D : DataW Unit} {V : Vals} {k : List UInt8} {b : Nat} {x : Int} (h : Cont w D V) (hD : Maps.IsMap D) (hb : Blk w b #[.int .i64 x] 45) : Cont w (D.put (.string k) (.lit (.int .i64 (b : Int)))) (putV V k x) := by
  have hk : WideAt.IsKeyLit (.string k) := trivial
  constructor
  · intro l y hy
    unfold putV at hy
    by_cases e : l = k
    · subst e
      rw [if_pos rfl] at hy
      obtain rfl := Option.some.inj hy
      exact ⟨b, fun z => Maps.atKey_put_same hD hk _ z, hb⟩
    · rw [if_neg e] at hy
      obtain ⟨c, hc, hx⟩ := h.1 l y hy
      exact ⟨c, fun z => (Maps.atKey_put_other (by intro e2; injection e2 with e2; exact e e2) _ z).trans (hc z), hx⟩
  · intro l hl
    unfold putV at hl
    by_cases e : l = k
    · rw [if_pos e] at hl; cases hl
    · rw [if_neg e] at hl
      rw [Maps.has_put_other (by intro e2; injection e2 with e2; exact e e2)]
      exact h.2 l hl
theorem Cont.keep {w w' : World} {D : DataW Unit} {V : Vals} (h : Cont w D V) (hk : ∀ b x, Blk w b #[.int .i64 x] 45 → Blk w' b #[.int .i64 x] 45) : Cont w' D V := ⟨fun l x hx => by
  obtain ⟨b, hb, hB⟩ := h.1 l x hx
  exact ⟨b, hb, hk b x hB⟩, h.2⟩
theorem Cont.below {w w' : World} {D : DataW Unit} {V : Vals} (h : Cont w D V) (hb : Below w.heap.size w w') : Cont w' D V := h.keep fun _ _ hx => hx.below hb hx.lt
theorem Cont.has_iff {w : World} {D : DataW Unit} {V : Vals} (h : Cont w D V) (l : List UInt8) : Maps.has D (.string l) = (V l).isSome := by
  cases hv : V l with
  | none => simpa using h.2 l hv
  | some x =>
    obtain ⟨b, hb, _⟩ := h.1 l x hv
    exact Maps.has_true_of_atKey hb
/-- The element at a key that is there. -/
theorem Cont.at {w : World} {D : DataW Unit} {V : Vals} (h : Cont w D V) {l : List UInt8} {c : Nat} (hc : ∀ z, D.atKey (.string l) z = .lit (.int .i64 (c : Int))) : ∃ x, V l = some x ∧ Blk w c #[.int .i64 x] 45 := by
  cases hv : V l with
  | none =>
    have e := h.2 l hv
    rw [Maps.has_true_of_atKey hc] at e
    cases e
  | some x =>
    obtain ⟨b, hb, hB⟩ := h.1 l x hv
    have e := (hb .nil).symm.trans (hc .nil)
    have e2 : (b : Int) = (c : Int) := by simpa using e
    obtain rfl : b = c := by omega
    exact ⟨x, rfl, hB⟩

/-- What the numbers and the keys of a map are bounded by. -/
structure Fits (V : Vals) : Prop where
  num : ∀ l x, V l = some x → (Lit.int .i64 x).wf = true
  key : ∀ l x, V l = some x → l.length ≤ 1048576

/-- A map object in memory. -/
structure IM (w : World) (ob bm n : Nat) (D : DataW Unit) (V : Vals) : Prop where
  obj : w.cell? ⟨ob, 0, none⟩ = some (.map (some bm))
  lt : ob < w.heap.size
  map : w.ownsMap Tryf.prog 9 elemR bm n D
  le : n ≤ 4096
  cont : Cont w D V
theorem IM.below {w w' : World} {ob bm n : Nat} {D : DataW Unit} {V : Vals} (h : IM w ob bm n D V) (hb : Below w.heap.size w w') : IM w' ob bm n D V :=
  ⟨(hb.cell h.lt).trans h.obj, Nat.lt_of_lt_of_le h.lt hb.size, h.map.kept (row := none) ⟨hb.os, hb.tape, hb.output, hb.size, fun k hk _ => hb.block k hk⟩ (by simp), h.le, h.cont.below hb⟩

/-- Each key of V is one of the first k strings, each number one of the numbers. -/
def From (V : Vals) (zs : List ByteArray) (xs : List Int) (k : Nat) : Prop := ∀ l x, V l = some x → x ∈ xs ∧ ∃ a s, a < k ∧ zs[a]? = some s ∧ s.data.toList = l
theorem From.put {V : Vals} {zs : List ByteArray} {xs : List Int} {k : Nat} {s : ByteArray} {y : Int} (h : From V zs xs k) (hs : zs[k]? = some s) (hy : xs[k]? = some y) : From (putV V s.data.toList y) zs xs (k + 1) := by
  intro l x hx
  unfold putV at hx
  split at hx
  · rename_i e
    obtain rfl := Option.some.inj hx
    exact ⟨List.mem_of_getElem? hy, k, s, by omega, hs, e.symm⟩
  · obtain ⟨h1, a, s', ha, h2, h3⟩ := h l x hx
    exact ⟨h1, a, s', by omega, h2, h3⟩

def NewIM (zs : List ByteArray) (xs : List Int) (k : Nat) (w : World) (e : Ending) (w' : World) : Prop := ∃ ob bm n D V, e = .returned (.pointer (some ⟨ob, 0, none⟩)) ∧ IM w' ob bm n D V ∧ From V zs xs k ∧ Below w.heap.size w w'

/-- The map after k rounds. -/
structure Mk (zs : List ByteArray) (xs : List Int) (w wr : World) (bm k : Nat) (D : DataW Unit) (V : Vals) : Prop where
  map : wr.ownsMap Tryf.prog 9 elemR bm k D
  isMap : Maps.IsMap D
  cont : Cont wr D V
  from_ : From V zs xs k
  bel : Below w.heap.size w wr

set_option maxHeartbeats 2000000 in
theorem map_any (A : Option Addr) (m c : Nat) (zs : List ByteArray) (B : Option Addr) (l d : Nat) (xs : List Int) (w : World) (h : SlIn w w.heap.size A m c (zs.map Value.string)) (h' : SlIn w w.heap.size B l d (xs.map (Value.int .i64))) (hz : ∀ s ∈ zs, s.size ≤ maxLen) (hm : m ≤ 4096) (hl : l ≤ 4096) :
    Calls Tryf.prog 9 #[.slice A m c, .slice B l d] w (NewIM zs xs (min m l) w) := by
  have HS := hide h
  have HT := hide h'
  have HZ := hide hz
  clear h h' hz
  have hmm := @run_makeMap Tryf.prog
  go_enter Tryf.func9, Tryf.ntmps9
  go_wp2
  have M0 : Hid (Mk zs xs w (w.alloc (.map #[] 0)) w.heap.size 0 (.map []) (fun _ => none)) := ⟨World.ownsMap_made _ _ _ _, Maps.isMap_empty, Cont.empty _, fun _ _ h => (by cases h), (Below.refl _ _).alloc (Nat.le_refl _) _⟩
  go_loopw [6] (fun ix wr => ∃ (k : Nat) (D : DataW Unit) (V : Vals), k ≤ m ∧ k ≤ l ∧ ix = .int .i64 k ∧ Hid (Mk zs xs w wr w.heap.size k D V)) (fun ix _ => m - (intOf ix).toNat)
  case atStart => exact ⟨0, _, _, Nat.zero_le _, Nat.zero_le _, rfl, M0⟩
  case round =>
    obtain ⟨k, D, V, hk, hkl, rfl, M⟩ := hrel
    clear M0
    by_cases hlt : k < m
    · by_cases hlt2 : k < l
      · obtain ⟨b, off, x, hA, hb, hx, hc⟩ := (HS.out.below M.out.bel (Nat.le_refl _)).str hlt
        obtain ⟨b', off', y, hA', hb', hy, hc'⟩ := (HT.out.below M.out.bel (Nat.le_refl _)).num hlt2
        subst hA hA'
        have hkey := WideMaps.keyOf_string_mk Tryf.underlying9 (HZ.out x (List.mem_of_getElem? hx))
        have hbz := M.out.bel.size
        have l1 : b < wr.heap.size := Nat.lt_of_lt_of_le hb hbz
        have l2 : b' < wr.heap.size := Nat.lt_of_lt_of_le hb' hbz
        obtain ⟨w5, hrun, hown5, hg5⟩ := ((M.out.map.alloc (.cells #[.int .i64 y] 45)).drew).update law9 Tryf.underlying40 (by unfold maxLen; omega) hkey (elemR_mk' wr.heap.size)
        have M5 : Hid (Mk zs xs w w5 w.heap.size (k + 1) (D.put (.string x.data.toList) (.lit (.int .i64 (wr.heap.size : Int)))) (putV V x.data.toList y)) := by
          have hblk : Blk (wr.alloc (.cells #[.int .i64 y] 45)).drew wr.heap.size #[.int .i64 y] 45 := Blk.new wr _ _
          have hin : Cont (wr.alloc (.cells #[.int .i64 y] 45)).drew D V := M.out.cont.keep fun _ _ hb => (hb.alloc _).drew
          have hmb : ∀ (b : Nat) (z : Int), Blk (wr.alloc (.cells #[.int .i64 y] 45)).drew b #[.int .i64 z] 45 → Blk w5 b #[.int .i64 z] 45 := fun b z hb => hb.of_eq (hg5.block b hb.lt (fun e => by
            have e2 : b = w.heap.size := by injection e
            subst e2
            obtain ⟨es, cl, hh, _⟩ := (M.out.map.alloc (.cells #[.int .i64 y] 45)).drew
            unfold Blk at hb
            rw [hh] at hb
            cases hb))
          exact ⟨hown5, M.out.isMap.put _ _, (hin.put M.out.isMap hblk).keep hmb, M.out.from_.put hx hy, ((M.out.bel.alloc hbz _).drew).grown hg5 (by simp; omega) (fun g hg => by cases hg; exact Nat.le_refl _)⟩
        clear hown5 hg5 hkey hx hy
        go_wp2
        go_region
        go_wp2
        go_roundw
        case rel => exact ⟨k + 1, _, _, by omega, by omega, by go_num, M5⟩
        case measure => simp [intOf]; omega
      · go_wp2
        go_ret
        refine ⟨wr.heap.size, w.heap.size, k, D, V, rfl, ⟨(Blk.new wr _ _).at rfl, by simp, M.out.map.alloc _, by omega, M.out.cont.keep fun _ _ hb => hb.alloc _⟩, (by rw [show min m l = k by omega]; exact M.out.from_), M.out.bel.alloc M.out.bel.size _⟩
    · go_wp2
      go_ret
      refine ⟨wr.heap.size, w.heap.size, k, D, V, rfl, ⟨(Blk.new wr _ _).at rfl, by simp, M.out.map.alloc _, by omega, M.out.cont.keep fun _ _ hb => hb.alloc _⟩, (by rw [show min m l = k by omega]; exact M.out.from_), M.out.bel.alloc M.out.bel.size _⟩
end Go.Proofs.YtdmmiiniikdapaaFmt
