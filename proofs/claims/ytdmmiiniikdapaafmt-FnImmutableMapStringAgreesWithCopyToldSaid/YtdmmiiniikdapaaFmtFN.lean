/- strconv.FormatInt at base ten and any table. -/
import Derived.Test.YtdmmiiniikdapaaFmtNumD
import Derived.Test.YtdmmiiniikdapaaFmtFb
import Derived.Lib.AppendIntMem
import Derived.WalkSmall
set_option linter.unusedSimpArgs false
namespace Go.Proofs.YtdmmiiniikdapaaFmt
open Go.RowKit Go.Sort Go.Lib
set_option maxRecDepth 100000 in
set_option maxHeartbeats 1000000 in
theorem fmtIntNeg (T : Int) (u : Nat) (h1 : 1 ≤ u) (h2 : u ≤ 9223372036854775808) (w : World) (hT : w.cell? ⟨1, Lib.l10 (Lib.bitLen u), none⟩ = some (.int .u64 T)) :
    Calls Tryf.prog 47 #[.int .i64 (-(u : Int)), .int .i64 10] w fun e w' => e = .returned (.string ⟨(45 :: (fbRun (ndT T u) u (Array.replicate (ndT T u) 0)).toList).toArray⟩) ∧ Below w.heap.size w w' := by
  have hlt : 1 < w.heap.size := World.block_lt_of_cell? w _ hT
  have cN : ∀ o, Calls Tryf.prog 49 #[.int .u64 (u : Int)] (w.alloc o) fun e w' => e = .returned (.int .i64 (ndT T u : Int)) ∧ (w.alloc o) = w' := fun o => numD_any u (by omega) (by omega) T _ ((World.cell?_alloc_lt w o ⟨1, _, none⟩ hlt).trans hT)
  have CN := hide cN
  have d0 : decide (0 ≤ -(u : Int)) = false := by simp; omega
  have d2 : decide (-(u : Int) < 0) = true := by simp; omega
  have d3 : ¬ (u : Int) = 0 := by omega
  have d4 : ¬ u = 0 := by omega
  have hnd : ndT T u ≤ 20 := by
    have := (numDigits_eq u (by omega) (by omega)).2
    unfold ndT; split <;> simp_all <;> omega
  have hpow := (lt_pow u (ndT T u) (by omega) (by omega) (by unfold ndT; split <;> simp)).1
  generalize ndT T u = nd at *
  have hw : IntKind.u64.wrap (-IntKind.u64.wrap (-(u : Int))) = (u : Int) := by rw [IntKind.wrap_u64, IntKind.wrap_u64]; omega
  have hB := hide (And.intro h1 h2)
  have hI : (1 : Int) + (nd : Int) ≤ 24 := by omega
  have hal : Tryf.prog.arrayLen 87 = 24 := by kernel_rfl
  have hsl : ∀ W : World, ∀ b : Nat, (Instr.sliceAt 87 (.pointer (some ⟨b, 0, none⟩)) (some (.int .i64 1)) (some (.int .i64 (1 + (nd : Int)))) none).run Tryf.prog W = .ok (.slice (some ⟨b, 1, none⟩) nd 23) W := by
    intro W b
    have hso : (sizeOf (Tryf.prog.elem 87)).run Tryf.prog W = .ok 1 W := by kernel_rfl
    rw [run_sliceAt_array_lh (P := Tryf.prog) W 87 ⟨b, 0, none⟩ Tryf.underlying87 .i64 .i64 1 (1 + (nd : Int)) (by omega) (by omega) (by rw [hal]; omega), hso, hal]
    have e : (1 + (nd : Int)).toNat = nd + 1 := by omega
    simp [slicedAt, Result.andThen, e, Addr.add]
  clear cN hT h1 h2
  go_enter Tryf.func47, Tryf.ntmps47
  go_wp2_with (first | (go_at_call 49; refine (CN.out _).mono ?_; rintro e w' ⟨rfl, rfl⟩))
  have HH : Holds (fun (b : UInt8) => Value.int .u8 (b.toNat : Int)) (w.alloc (.cells Lib.zeros24 87)) w.heap.size 1 (Array.replicate nd 0) := Lib.holds_zero w 87 nd (by omega)
  have hfb := fb_any w.heap.size 1 23 u (Array.replicate nd 0) _ HH (by rw [Array.size_replicate]; exact hpow) (by have := hB.out.2; omega) (by rw [Array.size_replicate]; omega)
  rw [Array.size_replicate] at hfb
  refine hfb.mono ?_
  rintro e w1 ⟨rfl, n, rfl⟩
  have HH2 := hide (holds_putRow (fun (b : UInt8) => Value.int .u8 (b.toNat : Int)) _ w.heap.size 1 (Array.replicate nd 0) (fbRun nd u (Array.replicate nd 0)) HH (fbRun_size _ _ _))
  have hsz2 : (fbRun nd u (Array.replicate nd 0)).size = nd := by rw [fbRun_size, Array.size_replicate]
  obtain ⟨r, hr⟩ : ∃ r, fbRun nd u (Array.replicate nd 0) = r := ⟨_, rfl⟩
  rw [hr] at HH2 hsz2 ⊢
  have HR := hide hr
  clear hr hfb HH
  have hc0 : ((putRow (fun (b : UInt8) => Value.int .u8 (b.toNat : Int)) (w.alloc (.cells Lib.zeros24 87)) w.heap.size 1 r).drewN n).cell? ⟨w.heap.size, 0, none⟩ = some (.int .u8 0) := by
    rw [World.cell?_drewN, cell?_putRow_other _ _ _ _ _ _ (Or.inr (Or.inl (Nat.zero_lt_one))), World.cell?_alloc_new]
    exact Lib.zeros24_at 0 (by omega)
  have hf0 : ((putRow (fun (b : UInt8) => Value.int .u8 (b.toNat : Int)) (w.alloc (.cells Lib.zeros24 87)) w.heap.size 1 r).drewN n).frozen? ⟨w.heap.size, 0, none⟩ = false := by
    rw [World.frozen?_drewN, frozen?_putRow]
    exact World.frozen?_alloc_new _ _ _ _
  have hsl2 : ∀ W : World, (Instr.sliceAt 87 (.pointer (some ⟨w.heap.size, 0, none⟩)) none (some (.int .i64 (1 + (nd : Int)))) none).run Tryf.prog W = .ok (.slice (some ⟨w.heap.size, 0, none⟩) (1 + nd) 24) W := by
    intro W
    have hso : (sizeOf (Tryf.prog.elem 87)).run Tryf.prog W = .ok 1 W := by kernel_rfl
    rw [run_sliceAt_array_h (P := Tryf.prog) W 87 ⟨w.heap.size, 0, none⟩ Tryf.underlying87 .i64 (1 + (nd : Int)) (by omega) (by rw [hal]; omega), hso, hal]
    have e : (1 + (nd : Int)).toNat = 1 + nd := by omega
    simp [slicedAt, Result.andThen, e, Addr.add]
  have hcv : (convert 54 9 (.slice (some ⟨w.heap.size, 0, none⟩) (1 + nd) 24)).run Tryf.prog (((putRow (fun (b : UInt8) => Value.int .u8 (b.toNat : Int)) (w.alloc (.cells Lib.zeros24 87)) w.heap.size 1 r).drewN n).setCell ⟨w.heap.size, 0, none⟩ (.int .u8 45)) = .ok (.string ⟨(45 :: r.toList).toArray⟩) (((putRow (fun (b : UInt8) => Value.int .u8 (b.toNat : Int)) (w.alloc (.cells Lib.zeros24 87)) w.heap.size 1 r).drewN n).setCell ⟨w.heap.size, 0, none⟩ (.int .u8 45)) := by
    have h := run_convert_bytes_back (P := Tryf.prog) (((putRow (fun (b : UInt8) => Value.int .u8 (b.toNat : Int)) (w.alloc (.cells Lib.zeros24 87)) w.heap.size 1 r).drewN n).setCell ⟨w.heap.size, 0, none⟩ (.int .u8 45)) 54 9 5 ⟨w.heap.size, 0, none⟩ 24 (45 :: r.toList) Tryf.underlying54 Tryf.underlying5 Tryf.underlying9 (fun j hj => by
      rw [Lib.add_plain]
      cases j with
      | zero => exact World.cell?_setCell_same _ _ _ hc0
      | succ i =>
        have hi : i < r.size := by simpa using hj
        rw [World.cell?_setCell_other _ _ _ _ (by simp), List.getElem_cons_succ, World.cell?_drewN, show 0 + (i + 1) = 1 + i by omega]
        refine (HH2.out i hi).1.trans ?_
        simp [hi])
    rw [List.length_cons, Array.length_toList, hsz2, Nat.add_comm] at h
    exact h
  clear hsl hal hf0
  have hf0 : ((putRow (fun (b : UInt8) => Value.int .u8 (b.toNat : Int)) (w.alloc (.cells Lib.zeros24 87)) w.heap.size 1 r).drewN n).frozen? ⟨w.heap.size, 0, none⟩ = false := by
    rw [World.frozen?_drewN, frozen?_putRow]
    exact World.frozen?_alloc_new _ _ _ _
  go_wp2
  go_ret
  refine ⟨?_, ?_⟩
  · rw [HR.out]; rfl
  · obtain ⟨os, eo⟩ := Lib.fin_neg w (.cells Lib.zeros24 87) r n (.int .u8 45)
    show Below w.heap.size w (((putRow (fun (b : UInt8) => Value.int .u8 (b.toNat : Int)) (w.alloc (.cells Lib.zeros24 87)) w.heap.size 1 r).drewN n).setCell ⟨w.heap.size, 0, none⟩ (.int .u8 45))
    rw [eo]
    exact below_grow w.heap.size w (Nat.le_refl _) n os
end Go.Proofs.YtdmmiiniikdapaaFmt
