/- The table of strconv as any heap may hold it, and what Int.String answers at it. Conditions: the block of the table holds 20 numbers. -/
import Derived.Test.YtdmmiiniikdapaaFmtFI
import Derived.Test.YtdmmiiniikdapaaFmtFN
import Derived.Test.YtdmmiiniikdapaaFmtShelfN
import Derived.Test.YtdmmiiniikdapaaFmtBlk
import Derived.Shelf.Vars
set_option linter.unusedSimpArgs false
namespace Go.Proofs.YtdmmiiniikdapaaFmt
open Go.RowKit Go.Sort Go.Lib

/-- Block 1 holds the numbers T. -/
def Tab (w : World) (T : Nat → Int) : Prop := ∀ i, i < 20 → w.cell? ⟨1, i, none⟩ = some (.int .u64 (T i))
theorem Tab.lt {w : World} {T : Nat → Int} (h : Tab w T) : 1 < w.heap.size := World.block_lt_of_cell? w _ (h 0 (by omega))
theorem Tab.below {w w' : World} {T : Nat → Int} {B : Nat} (h : Tab w T) (hb : Below B w w') (hB : 1 < B) : Tab w' T := fun i hi => (hb.cell (p := ⟨1, i, none⟩) hB).trans (h i hi)

set_option maxRecDepth 100000 in
theorem tab_of_open {w : World} (h : w.ShapedOpen Tryf.prog) : ∃ T, Tab w T := by
  have h0 : ∃ zero, ((begin Tryf.prog (fun _ _ => 0) default).world.heap[1]?).bind Obj.row? = some (zero, 94) ∧ zero.size = 20 := ⟨Array.replicate 20 (.int .u64 0), by kernel_rfl, by simp⟩
  obtain ⟨zero, h0, hz⟩ := h0
  obtain ⟨cs, hh, hs, hr⟩ := h.1 1 zero 94 (of_decide_eq_true (by kernel_rfl)) h0
  obtain ⟨ts, hts, _, hall⟩ := hr (by kernel_rfl)
  have hc : Tryf.prog.cellTypes Tryf.prog.depth 94 = some (List.replicate 20 52) := by kernel_rfl
  rw [hc] at hts
  cases hts
  have hex : ∀ i, i < 20 → ∃ m, w.cell? ⟨1, i, none⟩ = some (.int .u64 m) := by
    intro i hi
    have h1 : i < cs.size := by omega
    obtain ⟨u, hu', hok⟩ := hall i cs[i] (by simp [h1])
    obtain rfl : u = 52 := by
      rw [List.getElem?_replicate] at hu'
      split at hu'
      · exact (Option.some.inj hu').symm
      · cases hu'
    have hcell : w.cell? ⟨1, i, none⟩ = some cs[i] := by simp [World.cell?, hh, h1]
    rw [hcell]
    unfold Cell.ok at hok
    rw [Tryf.underlying52] at hok
    cases hv : cs[i] <;> rw [hv] at hok <;> simp at hok
    case int k' n => exact ⟨n, by rw [hok.1]⟩
  refine ⟨fun i => if hi : i < 20 then Classical.choose (hex i hi) else 0, fun i hi => ?_⟩
  show w.cell? ⟨1, i, none⟩ = some (.int .u64 (if hi : i < 20 then Classical.choose (hex i hi) else 0))
  rw [dif_pos hi]
  exact Classical.choose_spec (hex i hi)

/-- The text of v at the table T. -/
def fmtT (T : Nat → Int) (v : Int) : List UInt8 :=
  if 0 ≤ v ∧ v < 100 then decDigits v.toNat
  else if v < 0 then 45 :: (fbRun (ndT (T (Lib.l10 (Lib.bitLen v.natAbs))) v.natAbs) v.natAbs (Array.replicate (ndT (T (Lib.l10 (Lib.bitLen v.natAbs))) v.natAbs) 0)).toList
  else (fbRun (ndT (T (Lib.l10 (Lib.bitLen v.natAbs))) v.natAbs) v.natAbs (Array.replicate (ndT (T (Lib.l10 (Lib.bitLen v.natAbs))) v.natAbs) 0)).toList

set_option maxRecDepth 100000 in
theorem ndT_le (T : Int) (u : Nat) (h0 : 1 ≤ u) (h1 : u < 18446744073709551616) : ndT T u ≤ 20 ∧ Lib.l10 (Lib.bitLen u) < 20 := by
  have := (Lib.numDigits_eq u h0 h1).2
  unfold ndT
  split <;> simp_all <;> omega

theorem fmtT_length (T : Nat → Int) (v : Int) (h0 : -9223372036854775808 ≤ v) (h1 : v ≤ 9223372036854775807) : (fmtT T v).length ≤ 100 := by
  unfold fmtT
  split
  · rename_i h
    have e : ∀ i : Fin 100, (decDigits i.val).length ≤ 100 := by decide +kernel
    exact e ⟨v.toNat, by omega⟩
  · have hu := ndT_le (T (Lib.l10 (Lib.bitLen v.natAbs))) v.natAbs (by omega) (by omega)
    split <;> simp [fbRun_size] <;> omega

set_option maxRecDepth 100000 in
theorem fmt_any (T : Nat → Int) (v : Int) (h0 : -9223372036854775808 ≤ v) (h1 : v ≤ 9223372036854775807) (w : World) (hT : Tab w T) :
    Calls Tryf.prog 47 #[.int .i64 v, .int .i64 10] w fun e w' => e = .returned (.string ⟨(fmtT T v).toArray⟩) ∧ Below w.heap.size w w' := by
  by_cases hs : 0 ≤ v ∧ v < 100
  · obtain ⟨i, rfl⟩ : ∃ i : Nat, v = i := ⟨v.toNat, by omega⟩
    refine (Tryf.internal_strconv_FormatInt_10_small i (by omega) w).mono ?_
    rintro e w' ⟨rfl, rfl⟩
    refine ⟨?_, Below.refl _ _⟩
    unfold fmtT
    rw [if_pos hs]
    simp
  · by_cases hneg : v < 0
    · obtain ⟨u, rfl⟩ : ∃ u : Nat, v = -(u : Int) := ⟨v.natAbs, by omega⟩
      have hl := (ndT_le 0 u (by omega) (by omega)).2
      refine (fmtIntNeg (T (Lib.l10 (Lib.bitLen u))) u (by omega) (by omega) w (hT _ hl)).mono ?_
      rintro e w' ⟨rfl, hb⟩
      refine ⟨?_, hb⟩
      unfold fmtT
      rw [if_neg hs, if_pos hneg, Int.natAbs_neg, Int.natAbs_natCast]
    · obtain ⟨u, rfl⟩ : ∃ u : Nat, v = (u : Int) := ⟨v.natAbs, by omega⟩
      have hl := (ndT_le 0 u (by omega) (by omega)).2
      refine (fmtIntPos (T (Lib.l10 (Lib.bitLen u))) u (by omega) (by omega) w (hT _ hl)).mono ?_
      rintro e w' ⟨rfl, hb⟩
      refine ⟨?_, hb⟩
      unfold fmtT
      rw [if_neg hs, if_neg hneg, Int.natAbs_natCast, Array.toArray_toList]

set_option maxHeartbeats 400000 in
theorem format_any (T : Nat → Int) (v : Int) (h0 : -9223372036854775808 ≤ v) (h1 : v ≤ 9223372036854775807) (w : World) (hT : Tab w T) :
    Calls Tryf.prog 46 #[.int .i64 v, .int .i64 10] w fun e w' => e = .returned (.string ⟨(fmtT T v).toArray⟩) ∧ Below w.heap.size w w' := by
  have hF := hide (fmt_any T v h0 h1 w hT)
  clear h0 h1 hT
  go_enter Tryf.func46, Tryf.ntmps46
  go_wp2_with fail
  refine hF.out.mono ?_
  rintro e w' ⟨rfl, hb⟩
  have HB := hide hb
  clear hb
  go_wp2
  go_ret
  exact ⟨rfl, HB.out⟩

set_option maxHeartbeats 400000 in
theorem str_any (T : Nat → Int) (b : Nat) (v : Int) (h0 : -9223372036854775808 ≤ v) (h1 : v ≤ 9223372036854775807) (w : World) (hT : Tab w T) (hb : Blk w b #[.int .i64 v] 45) :
    Calls Tryf.prog 45 #[.pointer (some ⟨b, 0, none⟩)] w fun e w' => e = .returned (.string ⟨(fmtT T v).toArray⟩) ∧ Below w.heap.size w w' := by
  have hF := hide (format_any T v h0 h1 w hT)
  have hci := hb.at (i := 0) (v := .int .i64 v) rfl
  clear h0 h1 hT hb
  go_enter Tryf.func45, Tryf.ntmps45
  go_wp2_with fail
  refine hF.out.mono ?_
  rintro e w' ⟨rfl, hb⟩
  have HB := hide hb
  clear hb
  go_wp2
  go_ret
  exact ⟨rfl, HB.out⟩
end Go.Proofs.YtdmmiiniikdapaaFmt
