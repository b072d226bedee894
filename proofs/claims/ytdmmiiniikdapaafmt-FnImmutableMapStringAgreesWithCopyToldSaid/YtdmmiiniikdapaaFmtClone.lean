/- The contract of the helper that makes a fresh copy of a slice of integers: the copy is nil where the slice is nil, else it lies in new memory and holds the same integers; nothing that was there has turned. Condition: at most 2^40 elements. -/
import Derived.Test.YtdmmiiniikdapaaFmtProg
import Derived.Test.YtdmmiiniikdapaaFmtBase
import Derived.Handy
import Derived.WalkLawsBesides
import Derived.WalkSpells
namespace Go.Proofs.YtdmmiiniikdapaaFmt
open Go.RowKit

theorem info_i64 : (Tryf.prog.info? 2).map (fun i => (i.zero, i.size, i.bytes)) = some (some (.int .i64 0), 1, 8) := by kernel_rfl

/-- The call hands back a slice of n elements that owns xs from base on; below base nothing has turned. -/
def Grew (base : Nat) (E : TypeId) (n : Nat) (xs : List Value) (w : World) (e : Ending) (w' : World) : Prop :=
  ∃ A c, e = .returned (.slice A n c) ∧ w'.ownsRow base E 1 (.slice A n c) n xs ∧ Below base w w'

/-- The same in new memory. -/
def Made (E : TypeId) (n : Nat) (xs : List Value) (w : World) (e : Ending) (w' : World) : Prop := Grew w.heap.size E n xs w e w'

theorem take_set {xs : List Value} {z u : Value} {k n : Nat} (hk : k < n) (hx : xs[k]? = some u) :
    (xs.take k ++ List.replicate (n - k) z).set k u = xs.take (k + 1) ++ List.replicate (n - (k + 1)) z := by
  have hl : k < xs.length := (List.getElem?_eq_some_iff.1 hx).1
  apply List.ext_getElem?
  intro j
  have hkl : (xs.take k).length = k := by simp; omega
  have hkl1 : (xs.take (k + 1)).length = k + 1 := by simp; omega
  rw [List.getElem?_set]
  by_cases hj : k = j
  · subst hj
    rw [if_pos rfl, if_pos (by simp; omega), List.getElem?_append_left (by omega), List.getElem?_take, if_pos (by omega), hx]
  · rw [if_neg hj]
    by_cases h1 : j < k
    · rw [List.getElem?_append_left (by omega), List.getElem?_append_left (by omega), List.getElem?_take, List.getElem?_take, if_pos h1, if_pos (by omega)]
    · rw [List.getElem?_append_right (by omega), List.getElem?_append_right (by omega), hkl, hkl1, List.getElem?_replicate, List.getElem?_replicate]
      by_cases h2 : j - k < n - k
      · rw [if_pos h2, if_pos (by omega)]
      · rw [if_neg h2, if_neg (by omega)]

set_option maxHeartbeats 1000000 in
theorem cloneI_any (A : Option Addr) (n c : Nat) (zs : List Int) (w : World) (h : SlIn w w.heap.size A n c (zs.map (Value.int .i64))) (hn : n ≤ 1099511627776) :
    Calls Tryf.prog 8 #[.slice A n c] w (Made 2 n (zs.map (Value.int .i64)) w) := by
  obtain ⟨i, hi, hz0, hz1, hz2⟩ := info_parts info_i64
  have HS := hide h
  have hle := h.le
  have heq := fun (w : World) (A : Option Addr) (n c : Nat) => Lib.run_eql_slice_nil (P := Tryf.prog) w 23 2 A n c 0 0 Tryf.underlying23
  cases A with
  | none =>
    obtain ⟨rfl, rfl⟩ := h.isNil rfl
    obtain rfl : zs = [] := List.eq_nil_of_length_eq_zero (by simpa using h.len)
    clear h
    go_enter Tryf.func8, Tryf.ntmps8
    go_wp2
    go_ret
    exact ⟨none, 0, rfl, World.ownsRow_nil _ _ _ _, Below.refl _ _⟩
  | some ad =>
    clear h
    go_enter Tryf.func8, Tryf.ntmps8
    go_wp2_with (at_make; refine wpList_make_full _ rfl _ _ 23 rfl w.heap.size 2 i (.int .i64 0) 1 Tryf.underlying23 hi hz0 hz1 _ _ _ _ n rfl rfl (by simp) (by simp) (by rw [hz2]; omega) (by unfold maxLen; omega) (Nat.le_refl _) ?_; intro w1 hown1 hgrow1)
    have hb1 : Below w.heap.size w w1 := (Below.refl _ _).grown hgrow1 (Nat.le_refl _) (fun k hk => by cases hk)
    have HO : Hid (w1.ownsRow w.heap.size 2 1 (.slice (some ⟨w.heap.size, 0, none⟩) n n) n ((zs.map (Value.int .i64)).take 0 ++ List.replicate (n - 0) (.int .i64 0))) := by
      have := hown1
      rw [Nat.mul_one, show (Value.int .i64 0).cells = #[.int .i64 0] from rfl, toList_madeCells_one] at this
      simpa [Hid] using this
    have HB := hide hb1
    clear hown1 hgrow1 hb1
    go_wp2
    go_loopw [4] (fun ix wr => ∃ k : Nat, k ≤ n ∧ ix = .int .i64 k ∧ Hid (wr.ownsRow w.heap.size 2 1 (.slice (some ⟨w.heap.size, 0, none⟩) n n) n ((zs.map (Value.int .i64)).take k ++ List.replicate (n - k) (.int .i64 0))) ∧ Hid (Below w.heap.size w wr)) (fun ix _ => n - (intOf ix).toNat)
    case atStart => exact ⟨0, Nat.zero_le _, rfl, HO, HB⟩
    case round =>
      obtain ⟨k, hk, rfl, HOr, HBr⟩ := hrel
      clear HO HB
      by_cases hlt : k < n
      · obtain ⟨b, off, x, e, hb, hx, hc⟩ := HS.out.num hlt
        have hcell : wr.cell? ⟨b, off + k, none⟩ = some (.int .i64 x) := (HBr.out.cell hb).trans hc
        obtain rfl : ad = ⟨b, off, none⟩ := Option.some.inj e
        clear e hc
        have hl : k < n * 1 := by omega
        have hdst : wr.cell? ⟨w.heap.size, k, none⟩ = some (((zs.map (Value.int .i64)).take k ++ List.replicate (n - k) (.int .i64 0))[k]?.getD (.int .i64 0)) := by
          rw [HOr.out.cellAt k hl]
          have : k < ((zs.map (Value.int .i64)).take k ++ List.replicate (n - k) (Value.int .i64 0)).length := by have := HOr.out.1; omega
          rw [List.getElem?_eq_getElem this]; rfl
        have hfr : wr.frozen? ⟨w.heap.size, k, none⟩ = false := HOr.out.frozenAt k
        have HX := hide hx
        clear hx
        go_wp2
        go_roundw
        case rel => exact ⟨k + 1, by omega, by go_num, hide (by rw [← take_set (z := .int .i64 0) hlt (show (zs.map (Value.int .i64))[k]? = some (.int .i64 x) by rw [List.getElem?_map, HX.out]; rfl)]; exact (HOr.out.stored k _).1), hide (HBr.out.setCell (Nat.le_refl _) _)⟩
        case measure => simp [intOf]; omega
      · go_wp2
        go_ret
        have : k = n := by omega
        subst this
        have ho := HOr.out
        rw [Nat.sub_self, List.replicate_zero, List.append_nil, List.take_of_length_le (by rw [HS.out.len]; exact Nat.le_refl _)] at ho
        exact ⟨_, _, rfl, ho, HBr.out⟩
end Go.Proofs.YtdmmiiniikdapaaFmt
