/- The contract of the helper that makes a fresh copy of a slice of strings: the copy is nil where the slice is nil, else it lies in new memory and holds the same strings; nothing that was there has turned. Condition: at most 2^40 elements. -/
import Derived.Test.YtdmmiiniikdapaaFmtProg
import Derived.Test.YtdmmiiniikdapaaFmtBase
import Derived.Test.YtdmmiiniikdapaaFmtClone
import Derived.Handy
import Derived.WalkLawsBesides
import Derived.WalkSpells
namespace Go.Proofs.YtdmmiiniikdapaaFmt
open Go.RowKit

theorem info_str : (Tryf.prog.info? 9).map (fun i => (i.zero, i.size, i.bytes)) = some (some (.string ByteArray.empty), 1, 16) := by kernel_rfl

/-- The k-th element of a slice of strings. -/
theorem SlIn.str {w : World} {B : Nat} {A : Option Addr} {n c : Nat} {zs : List ByteArray} (h : SlIn w B A n c (zs.map Value.string)) {k : Nat} (hk : k < n) : ∃ b off x, A = some ⟨b, off, none⟩ ∧ b < B ∧ zs[k]? = some x ∧ w.cell? ⟨b, off + k, none⟩ = some (.string x) := by
  obtain ⟨b, off, u, e, hb, hx, hc⟩ := h.cell hk
  rw [List.getElem?_map] at hx
  cases hz : zs[k]? with
  | none => rw [hz] at hx; cases hx
  | some x =>
    rw [hz] at hx
    obtain rfl : Value.string x = u := Option.some.inj hx
    exact ⟨b, off, x, e, hb, rfl, hc⟩

set_option maxHeartbeats 1000000 in
theorem cloneS_any (A : Option Addr) (n c : Nat) (zs : List ByteArray) (w : World) (h : SlIn w w.heap.size A n c (zs.map Value.string)) (hn : n ≤ 1099511627776) :
    Calls Tryf.prog 7 #[.slice A n c] w (Made 9 n (zs.map Value.string) w) := by
  obtain ⟨i, hi, hz0, hz1, hz2⟩ := info_parts info_str
  have HS := hide h
  have hle := h.le
  have heq := fun (w : World) (A : Option Addr) (n c : Nat) => Lib.run_eql_slice_nil (P := Tryf.prog) w 22 9 A n c 0 0 Tryf.underlying22
  cases A with
  | none =>
    obtain ⟨rfl, rfl⟩ := h.isNil rfl
    obtain rfl : zs = [] := List.eq_nil_of_length_eq_zero (by simpa using h.len)
    clear h
    go_enter Tryf.func7, Tryf.ntmps7
    go_wp2
    go_ret
    exact ⟨none, 0, rfl, World.ownsRow_nil _ _ _ _, Below.refl _ _⟩
  | some ad =>
    clear h
    go_enter Tryf.func7, Tryf.ntmps7
    go_wp2_with (at_make; refine wpList_make_full _ rfl _ _ 22 rfl w.heap.size 9 i (.string ByteArray.empty) 1 Tryf.underlying22 hi hz0 hz1 _ _ _ _ n rfl rfl (by simp) (by simp) (by rw [hz2]; omega) (by unfold maxLen; omega) (Nat.le_refl _) ?_; intro w1 hown1 hgrow1)
    have hb1 : Below w.heap.size w w1 := (Below.refl _ _).grown hgrow1 (Nat.le_refl _) (fun k hk => by cases hk)
    have HO : Hid (w1.ownsRow w.heap.size 9 1 (.slice (some ⟨w.heap.size, 0, none⟩) n n) n ((zs.map Value.string).take 0 ++ List.replicate (n - 0) (.string ByteArray.empty))) := by
      have := hown1
      rw [Nat.mul_one, show (Value.string ByteArray.empty).cells = #[.string ByteArray.empty] from rfl, toList_madeCells_one] at this
      simpa [Hid] using this
    have HB := hide hb1
    clear hown1 hgrow1 hb1
    go_wp2
    go_loopw [4] (fun ix wr => ∃ k : Nat, k ≤ n ∧ ix = .int .i64 k ∧ Hid (wr.ownsRow w.heap.size 9 1 (.slice (some ⟨w.heap.size, 0, none⟩) n n) n ((zs.map Value.string).take k ++ List.replicate (n - k) (.string ByteArray.empty))) ∧ Hid (Below w.heap.size w wr)) (fun ix _ => n - (intOf ix).toNat)
    case atStart => exact ⟨0, Nat.zero_le _, rfl, HO, HB⟩
    case round =>
      obtain ⟨k, hk, rfl, HOr, HBr⟩ := hrel
      clear HO HB
      by_cases hlt : k < n
      · obtain ⟨b, off, x, e, hb, hx, hc⟩ := HS.out.str hlt
        have hcell : wr.cell? ⟨b, off + k, none⟩ = some (.string x) := (HBr.out.cell hb).trans hc
        obtain rfl : ad = ⟨b, off, none⟩ := Option.some.inj e
        clear e hc
        have hl : k < n * 1 := by omega
        have hdst : wr.cell? ⟨w.heap.size, k, none⟩ = some (((zs.map Value.string).take k ++ List.replicate (n - k) (.string ByteArray.empty))[k]?.getD (.string ByteArray.empty)) := by
          rw [HOr.out.cellAt k hl]
          have : k < ((zs.map Value.string).take k ++ List.replicate (n - k) (Value.string ByteArray.empty)).length := by have := HOr.out.1; omega
          rw [List.getElem?_eq_getElem this]; rfl
        have hfr : wr.frozen? ⟨w.heap.size, k, none⟩ = false := HOr.out.frozenAt k
        have HX := hide hx
        clear hx
        go_wp2
        go_roundw
        case rel => exact ⟨k + 1, by omega, by go_num, hide (by rw [← take_set (z := .string ByteArray.empty) hlt (show (zs.map Value.string)[k]? = some (.string x) by rw [List.getElem?_map, HX.out]; rfl)]; exact (HOr.out.stored k _).1), hide (HBr.out.setCell (Nat.le_refl _) _)⟩
        case measure => simp [intOf]; omega
      · go_wp2
        go_ret
        have : k = n := by omega
        subst this
        have ho := HOr.out
        rw [Nat.sub_self, List.replicate_zero, List.append_nil, List.take_of_length_le (by rw [HS.out.len]; exact Nat.le_refl _)] at ho
        exact ⟨_, _, rfl, ho, HBr.out⟩
end Go.Proofs.YtdmmiiniikdapaaFmt
