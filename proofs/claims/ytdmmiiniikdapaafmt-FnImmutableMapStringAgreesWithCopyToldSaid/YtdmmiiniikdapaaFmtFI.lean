/- strconv.FormatInt at base ten and any table. -/
import Derived.Test.YtdmmiiniikdapaaFmtNumD
import Derived.Test.YtdmmiiniikdapaaFmtFb
import Derived.Lib.AppendIntMem
import Derived.WalkSmall
set_option linter.unusedSimpArgs false
namespace Go.Proofs.YtdmmiiniikdapaaFmt
open Go.RowKit Go.Sort Go.Lib
set_option maxRecDepth 100000 in
set_option maxHeartbeats 1000000 in
theorem fmtIntPos (T : Int) (u : Nat) (h1 : 100 ≤ u) (h2 : u < 9223372036854775808) (w : World) (hT : w.cell? ⟨1, Lib.l10 (Lib.bitLen u), none⟩ = some (.int .u64 T)) :
    Calls Tryf.prog 47 #[.int .i64 (u : Int), .int .i64 10] w fun e w' => e = .returned (.string ⟨(fbRun (ndT T u) u (Array.replicate (ndT T u) 0))⟩) ∧ Below w.heap.size w w' := by
  have hlt : 1 < w.heap.size := World.block_lt_of_cell? w _ hT
  have cN : ∀ o, Calls Tryf.prog 49 #[.int .u64 (u : Int)] (w.alloc o) fun e w' => e = .returned (.int .i64 (ndT T u : Int)) ∧ (w.alloc o) = w' := fun o => numD_any u (by omega) (by omega) T _ ((World.cell?_alloc_lt w o ⟨1, _, none⟩ hlt).trans hT)
  have CN := hide cN
  have d1 : decide ((u : Int) < 100) = false := by simp; omega
  have d0 : decide (0 ≤ (u : Int)) = true := by simp
  have d2 : decide ((u : Int) < 0) = false := by simp
  have hnd : ndT T u ≤ 20 := by
    have := (numDigits_eq u (by omega) (by omega)).2
    unfold ndT; split <;> simp_all <;> omega
  have hpow := (lt_pow u (ndT T u) (by omega) (by omega) (by unfold ndT; split <;> simp)).1
  generalize ndT T u = nd at *
  have hw : IntKind.u64.wrap (u : Int) = (u : Int) := by rw [IntKind.wrap_u64]; omega
  have hB := hide (And.intro h1 h2)
  have hI : (1 : Int) + (nd : Int) ≤ 24 := by omega
  have hal : Tryf.prog.arrayLen 87 = 24 := by kernel_rfl
  have hsl : ∀ W : World, ∀ b : Nat, (Instr.sliceAt 87 (.pointer (some ⟨b, 0, none⟩)) (some (.int .i64 1)) (some (.int .i64 (1 + (nd : Int)))) none).run Tryf.prog W = .ok (.slice (some ⟨b, 1, none⟩) nd 23) W := by
    intro W b
    have hso : (sizeOf (Tryf.prog.elem 87)).run Tryf.prog W = .ok 1 W := by kernel_rfl
    rw [run_sliceAt_array_lh (P := Tryf.prog) W 87 ⟨b, 0, none⟩ Tryf.underlying87 .i64 .i64 1 (1 + (nd : Int)) (by omega) (by omega) (by rw [hal]; omega), hso, hal]
    have e : (1 + (nd : Int)).toNat = nd + 1 := by omega
    simp [slicedAt, Result.andThen, e, Addr.add]
  clear cN hT h1 h2
  go_enter Tryf.func47, Tryf.ntmps47
  go_wp2_with (first | (go_at_call 49; refine (CN.out _).mono ?_; rintro e w' ⟨rfl, rfl⟩))
  have HH : Holds (fun (b : UInt8) => Value.int .u8 (b.toNat : Int)) (w.alloc (.cells #[.int .u8 0, .int .u8 0, .int .u8 0, .int .u8 0, .int .u8 0, .int .u8 0, .int .u8 0, .int .u8 0, .int .u8 0, .int .u8 0, .int .u8 0, .int .u8 0, .int .u8 0, .int .u8 0, .int .u8 0, .int .u8 0, .int .u8 0, .int .u8 0, .int .u8 0, .int .u8 0, .int .u8 0, .int .u8 0, .int .u8 0, .int .u8 0] 87)) w.heap.size 1 (Array.replicate nd 0) := by
    intro j hj
    rw [Array.size_replicate] at hj
    constructor
    · rw [World.cell?_alloc_new]
      have hj2 : j < 20 := by omega
      have e : (Array.replicate nd (0 : UInt8))[j]! = 0 := by simp [hj]
      rw [e]
      rw [show (#[.int .u8 0, .int .u8 0, .int .u8 0, .int .u8 0, .int .u8 0, .int .u8 0, .int .u8 0, .int .u8 0, .int .u8 0, .int .u8 0, .int .u8 0, .int .u8 0, .int .u8 0, .int .u8 0, .int .u8 0, .int .u8 0, .int .u8 0, .int .u8 0, .int .u8 0, .int .u8 0, .int .u8 0, .int .u8 0, .int .u8 0, .int .u8 0] : Array Value) = Array.replicate 24 (.int .u8 0) from rfl, Array.getElem?_replicate, if_pos (by omega)]
      rfl
    · have hb := heap_alloc_new w (.cells #[.int .u8 0, .int .u8 0, .int .u8 0, .int .u8 0, .int .u8 0, .int .u8 0, .int .u8 0, .int .u8 0, .int .u8 0, .int .u8 0, .int .u8 0, .int .u8 0, .int .u8 0, .int .u8 0, .int .u8 0, .int .u8 0, .int .u8 0, .int .u8 0, .int .u8 0, .int .u8 0, .int .u8 0, .int .u8 0, .int .u8 0, .int .u8 0] 87)
      unfold World.frozen?
      simp only [hb]
      simp
  have hfb := fb_any w.heap.size 1 23 u (Array.replicate nd 0) _ HH (by rw [Array.size_replicate]; exact hpow) (by have := hB.out.2; omega) (by rw [Array.size_replicate]; omega)
  rw [Array.size_replicate] at hfb
  refine hfb.mono ?_
  rintro e w1 ⟨rfl, n, rfl⟩
  have HH2 := holds_putRow (fun (b : UInt8) => Value.int .u8 (b.toNat : Int)) _ w.heap.size 1 (Array.replicate nd 0) (fbRun nd u (Array.replicate nd 0)) HH (fbRun_size _ _ _)
  have hsz2 : (fbRun nd u (Array.replicate nd 0)).size = nd := by rw [fbRun_size, Array.size_replicate]
  have hBl : Hid (Below w.heap.size w ((putRow (fun (b : UInt8) => Value.int .u8 (b.toNat : Int)) (w.alloc (.cells #[.int .u8 0, .int .u8 0, .int .u8 0, .int .u8 0, .int .u8 0, .int .u8 0, .int .u8 0, .int .u8 0, .int .u8 0, .int .u8 0, .int .u8 0, .int .u8 0, .int .u8 0, .int .u8 0, .int .u8 0, .int .u8 0, .int .u8 0, .int .u8 0, .int .u8 0, .int .u8 0, .int .u8 0, .int .u8 0, .int .u8 0, .int .u8 0] 87)) w.heap.size 1 (fbRun nd u (Array.replicate nd 0))).drewN n)) := by
    obtain ⟨os, ho⟩ := fin_pos w (.cells #[.int .u8 0, .int .u8 0, .int .u8 0, .int .u8 0, .int .u8 0, .int .u8 0, .int .u8 0, .int .u8 0, .int .u8 0, .int .u8 0, .int .u8 0, .int .u8 0, .int .u8 0, .int .u8 0, .int .u8 0, .int .u8 0, .int .u8 0, .int .u8 0, .int .u8 0, .int .u8 0, .int .u8 0, .int .u8 0, .int .u8 0, .int .u8 0] 87) (fbRun nd u (Array.replicate nd 0)) n
    show Below _ _ _
    rw [ho]
    exact below_grow w.heap.size w (Nat.le_refl _) n os
  obtain ⟨r, hr⟩ : ∃ r, fbRun nd u (Array.replicate nd 0) = r := ⟨_, rfl⟩
  rw [hr] at HH2 hsz2 hBl ⊢
  have HR := hide hr
  clear hr
  have hcv := run_convert_bytes_back (P := Tryf.prog) ((putRow (fun (b : UInt8) => Value.int .u8 (b.toNat : Int)) (w.alloc (.cells #[.int .u8 0, .int .u8 0, .int .u8 0, .int .u8 0, .int .u8 0, .int .u8 0, .int .u8 0, .int .u8 0, .int .u8 0, .int .u8 0, .int .u8 0, .int .u8 0, .int .u8 0, .int .u8 0, .int .u8 0, .int .u8 0, .int .u8 0, .int .u8 0, .int .u8 0, .int .u8 0, .int .u8 0, .int .u8 0, .int .u8 0, .int .u8 0] 87)) w.heap.size 1 r).drewN n) 54 9 5 ⟨w.heap.size, 1, none⟩ 23 r.toList Tryf.underlying54 Tryf.underlying5 Tryf.underlying9 (fun j hj => by
    have hj2 : j < r.size := by simpa using hj
    rw [Addr.add_lit]
    refine (HH2 j hj2).1.trans ?_
    simp [hj2])
  rw [Array.length_toList, hsz2] at hcv
  clear HH HH2 hfb
  go_wp2
  go_ret
  refine ⟨?_, hBl.out⟩
  show Ending.returned (Value.string ⟨r.toList.toArray⟩) = _
  rw [Array.toArray_toList, HR.out]
end Go.Proofs.YtdmmiiniikdapaaFmt
