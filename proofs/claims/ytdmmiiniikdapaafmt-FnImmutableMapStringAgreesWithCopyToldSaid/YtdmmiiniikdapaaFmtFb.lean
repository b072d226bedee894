/- internal/strconv.formatBase10 at a number that may be one digit too great for its row: the row behind it. Condition: a row of at most 24 bytes. -/
import Derived.Test.YtdmmiiniikdapaaFmtProg
import Derived.Test.YtdmmiiniikdapaaFmtBase
import Derived.Test.YtdmmiiniikdapaaFmtFbRun
import Derived.Lib.ItoaWalk
import Derived.Shelf.RegionOpenPlain
import Derived.WalkKit
import Derived.RegionTactic
import Derived.BigCall
import Derived.BigGuard
import Derived.CellFam
namespace Go.Proofs.YtdmmiiniikdapaaFmt
open Go.RowKit Go.Sort Go.Lib
set_option maxHeartbeats 12800000 in
set_option maxRecDepth 100000 in
theorem fb_any (blk off cap : Nat) (u : Nat) (d : Array UInt8) (w : World) (hH : Holds (fun (b : UInt8) => Value.int .u8 (b.toNat : Int)) w blk off d) (hu : u < 10 ^ (d.size + 1)) (hu64 : u < 18446744073709551616) (hsz : d.size ≤ 24) :
    Calls Tryf.prog 50 #[.slice (some ⟨blk, off, none⟩) d.size cap, .int .u64 (u : Int)] w fun e w' => e = .returned (.tuple #[]) ∧ ∃ n : Nat, w' = (putRow (fun (b : UInt8) => Value.int .u8 (b.toNat : Int)) w blk off (fbRun d.size u d)).drewN n := by
  go_enter Tryf.func50, Tryf.ntmps50
  go_name_bytes SM hSM
  have eSM : SM = Lib.smalls := by rw [← hSM]; decide +kernel
  subst eSM
  clear hSM
  go_wp2
  go_loopw [1, 4] (fun vu vn wr => ∃ (nd v n : Nat) (dk : Array UInt8), vu = .int .u64 v ∧ vn = .int .i64 nd ∧ wr = (putRow (fun (b : UInt8) => Value.int .u8 (b.toNat : Int)) w blk off dk).drewN n ∧ Hid (FbInv d u nd v dk)) (fun _ vn _ => (RowKit.intOf vn).toNat)
  case atStart => exact ⟨d.size, u, 0, d, rfl, rfl, (putRow_self _ _ _ _ _ hH).symm, FbInv.start d u hu⟩
  case round =>
    obtain ⟨nd, v, n, dk0, rfl, rfl, hw0, HI0⟩ := hrel
    rename World => W0
    have AH := hide hH
    clear hH
    have hv64 : v < 18446744073709551616 := by have := HI0.out.top; omega
    have hs0 : dk0.size = d.size := HI0.out.size
    have hH0 : Holds (fun (b : UInt8) => Value.int .u8 (b.toNat : Int)) W0 blk off dk0 := by rw [hw0]; exact holds_putRow _ w blk off d dk0 AH.out hs0
    obtain ⟨G0, hG0⟩ : ∃ G : Nat → Int, ∀ t, G t = (dk0[t]!.toNat : Int) := ⟨_, fun _ => rfl⟩
    have hc0 : ∀ t, t < d.size → W0.cell? ⟨blk, off + t, none⟩ = some (.int .u8 (G0 t)) := fun t ht => by rw [hG0]; exact (hH0 t (by omega)).1
    have hf0 : ∀ t, t < d.size → W0.frozen? ⟨blk, off + t, none⟩ = false := fun t ht => (hH0 t (by omega)).2
    have AW0 := hide hw0
    clear hw0 hG0 hH0
    by_cases h8 : 8 ≤ nd
    · obtain ⟨m, rfl⟩ : ∃ m, nd = m + 8 := ⟨nd - 8, by omega⟩
      go_wp2
      have HI1 := hide (FbInv.step2 (show FbInv d u (m + 6 + 2) (v) dk0 from HI0.out))
      have hle0 := HI0.out.le
      go_name_slot 9 x0 hx0
      have hxe0 : x0 = ((v % 100 * 2 : Nat) : Int) := by omega
      have hXa0 : ∀ w, (Instr.index 9 (.string Lib.smalls) (.int .u32 (x0 + 1))).run Tryf.prog w = .ok (.int .u8 ((sm (v % 100 * 2 + 1)).toNat : Int)) w := idx_smalls 9 Tryf.underlying9 .u32 _ _ (by omega) (by omega)
      have hXb0 : ∀ w, (Instr.index 9 (.string Lib.smalls) (.int .u32 x0)).run Tryf.prog w = .ok (.int .u8 ((sm (v % 100 * 2)).toNat : Int)) w := idx_smalls 9 Tryf.underlying9 .u32 _ _ (by omega) (by omega)
      have hlo0 : 0 ≤ x0 := by omega
      have hhi0 : x0 ≤ 198 := by omega
      clear hx0 hxe0
      go_region
      go_wp2
      go_name_world W1 hW1
      have hw1 : W1 = (putRow (fun (b : UInt8) => Value.int .u8 (b.toNat : Int)) w blk off ((dk0.setIfInBounds (m + 6 + 1) (sm (v % 100 * 2 + 1))).setIfInBounds (m + 6) (sm (v % 100 * 2)))).drewN (n + 0 + 1) := by rw [← hW1]; exact (by rw [AW0.out]; exact store2_world w blk off dk0 (n + 0) _ _ _ _ (by omega) (by omega))
      generalize ((dk0.setIfInBounds (m + 6 + 1) (sm (v % 100 * 2 + 1))).setIfInBounds (m + 6) (sm (v % 100 * 2))) = dk1 at hw1 HI1
      clear hW1 hc0 hf0 AW0 HI0 hXa0 hXb0 hs0
      have hs1 : dk1.size = d.size := HI1.out.size
      have hH1 : Holds (fun (b : UInt8) => Value.int .u8 (b.toNat : Int)) W1 blk off dk1 := by rw [hw1]; exact holds_putRow _ w blk off d dk1 AH.out hs1
      obtain ⟨G1, hG1⟩ : ∃ G : Nat → Int, ∀ t, G t = (dk1[t]!.toNat : Int) := ⟨_, fun _ => rfl⟩
      have hc1 : ∀ t, t < d.size → W1.cell? ⟨blk, off + t, none⟩ = some (.int .u8 (G1 t)) := fun t ht => by rw [hG1]; exact (hH1 t (by omega)).1
      have hf1 : ∀ t, t < d.size → W1.frozen? ⟨blk, off + t, none⟩ = false := fun t ht => (hH1 t (by omega)).2
      have AW1 := hide hw1
      clear hw1 hG1 hH1
      have HI2 := hide (FbInv.step2 (show FbInv d u (m + 4 + 2) (v / 100) dk1 from HI1.out))
      have hle1 := HI1.out.le
      go_name_slot 8 x1 hx1
      have hxe1 : x1 = ((v / 100 % 100 * 2 : Nat) : Int) := by omega
      have hXa1 : ∀ w, (Instr.index 9 (.string Lib.smalls) (.int .u32 (x1 + 1))).run Tryf.prog w = .ok (.int .u8 ((sm (v / 100 % 100 * 2 + 1)).toNat : Int)) w := idx_smalls 9 Tryf.underlying9 .u32 _ _ (by omega) (by omega)
      have hXb1 : ∀ w, (Instr.index 9 (.string Lib.smalls) (.int .u32 x1)).run Tryf.prog w = .ok (.int .u8 ((sm (v / 100 % 100 * 2)).toNat : Int)) w := idx_smalls 9 Tryf.underlying9 .u32 _ _ (by omega) (by omega)
      have hlo1 : 0 ≤ x1 := by omega
      have hhi1 : x1 ≤ 198 := by omega
      clear hx1 hxe1
      go_region
      go_wp2
      go_name_world W2 hW2
      have hw2 : W2 = (putRow (fun (b : UInt8) => Value.int .u8 (b.toNat : Int)) w blk off ((dk1.setIfInBounds (m + 4 + 1) (sm (v / 100 % 100 * 2 + 1))).setIfInBounds (m + 4) (sm (v / 100 % 100 * 2)))).drewN (n + 1 + 1) := by rw [← hW2]; exact (by rw [AW1.out]; exact store2_world w blk off dk1 (n + 1) _ _ _ _ (by omega) (by omega))
      generalize ((dk1.setIfInBounds (m + 4 + 1) (sm (v / 100 % 100 * 2 + 1))).setIfInBounds (m + 4) (sm (v / 100 % 100 * 2))) = dk2 at hw2 HI2
      clear hW2 hc1 hf1 AW1 HI1 hXa1 hXb1 hs1
      have hs2 : dk2.size = d.size := HI2.out.size
      have hH2 : Holds (fun (b : UInt8) => Value.int .u8 (b.toNat : Int)) W2 blk off dk2 := by rw [hw2]; exact holds_putRow _ w blk off d dk2 AH.out hs2
      obtain ⟨G2, hG2⟩ : ∃ G : Nat → Int, ∀ t, G t = (dk2[t]!.toNat : Int) := ⟨_, fun _ => rfl⟩
      have hc2 : ∀ t, t < d.size → W2.cell? ⟨blk, off + t, none⟩ = some (.int .u8 (G2 t)) := fun t ht => by rw [hG2]; exact (hH2 t (by omega)).1
      have hf2 : ∀ t, t < d.size → W2.frozen? ⟨blk, off + t, none⟩ = false := fun t ht => (hH2 t (by omega)).2
      have AW2 := hide hw2
      clear hw2 hG2 hH2
      have HI3 := hide (FbInv.step2 (show FbInv d u (m + 2 + 2) (v / 100 / 100) dk2 from HI2.out))
      have hle2 := HI2.out.le
      go_name_slot 11 x2 hx2
      have hxe2 : x2 = ((v / 100 / 100 % 100 * 2 : Nat) : Int) := by omega
      have hXa2 : ∀ w, (Instr.index 9 (.string Lib.smalls) (.int .u32 (x2 + 1))).run Tryf.prog w = .ok (.int .u8 ((sm (v / 100 / 100 % 100 * 2 + 1)).toNat : Int)) w := idx_smalls 9 Tryf.underlying9 .u32 _ _ (by omega) (by omega)
      have hXb2 : ∀ w, (Instr.index 9 (.string Lib.smalls) (.int .u32 x2)).run Tryf.prog w = .ok (.int .u8 ((sm (v / 100 / 100 % 100 * 2)).toNat : Int)) w := idx_smalls 9 Tryf.underlying9 .u32 _ _ (by omega) (by omega)
      have hlo2 : 0 ≤ x2 := by omega
      have hhi2 : x2 ≤ 198 := by omega
      clear hx2 hxe2
      go_region
      go_wp2
      go_name_world W3 hW3
      have hw3 : W3 = (putRow (fun (b : UInt8) => Value.int .u8 (b.toNat : Int)) w blk off ((dk2.setIfInBounds (m + 2 + 1) (sm (v / 100 / 100 % 100 * 2 + 1))).setIfInBounds (m + 2) (sm (v / 100 / 100 % 100 * 2)))).drewN (n + 2 + 1) := by rw [← hW3]; exact (by rw [AW2.out]; exact store2_world w blk off dk2 (n + 2) _ _ _ _ (by omega) (by omega))
      generalize ((dk2.setIfInBounds (m + 2 + 1) (sm (v / 100 / 100 % 100 * 2 + 1))).setIfInBounds (m + 2) (sm (v / 100 / 100 % 100 * 2))) = dk3 at hw3 HI3
      clear hW3 hc2 hf2 AW2 HI2 hXa2 hXb2 hs2
      have hs3 : dk3.size = d.size := HI3.out.size
      have hH3 : Holds (fun (b : UInt8) => Value.int .u8 (b.toNat : Int)) W3 blk off dk3 := by rw [hw3]; exact holds_putRow _ w blk off d dk3 AH.out hs3
      obtain ⟨G3, hG3⟩ : ∃ G : Nat → Int, ∀ t, G t = (dk3[t]!.toNat : Int) := ⟨_, fun _ => rfl⟩
      have hc3 : ∀ t, t < d.size → W3.cell? ⟨blk, off + t, none⟩ = some (.int .u8 (G3 t)) := fun t ht => by rw [hG3]; exact (hH3 t (by omega)).1
      have hf3 : ∀ t, t < d.size → W3.frozen? ⟨blk, off + t, none⟩ = false := fun t ht => (hH3 t (by omega)).2
      have AW3 := hide hw3
      clear hw3 hG3 hH3
      have HI4 := hide (FbInv.step2 (show FbInv d u (m + 2) (v / 100 / 100 / 100) dk3 from HI3.out))
      have hle3 := HI3.out.le
      go_name_slot 10 x3 hx3
      have hxe3 : x3 = ((v / 100 / 100 / 100 % 100 * 2 : Nat) : Int) := by omega
      have hXa3 : ∀ w, (Instr.index 9 (.string Lib.smalls) (.int .u32 (x3 + 1))).run Tryf.prog w = .ok (.int .u8 ((sm (v / 100 / 100 / 100 % 100 * 2 + 1)).toNat : Int)) w := idx_smalls 9 Tryf.underlying9 .u32 _ _ (by omega) (by omega)
      have hXb3 : ∀ w, (Instr.index 9 (.string Lib.smalls) (.int .u32 x3)).run Tryf.prog w = .ok (.int .u8 ((sm (v / 100 / 100 / 100 % 100 * 2)).toNat : Int)) w := idx_smalls 9 Tryf.underlying9 .u32 _ _ (by omega) (by omega)
      have hlo3 : 0 ≤ x3 := by omega
      have hhi3 : x3 ≤ 198 := by omega
      clear hx3 hxe3
      go_region
      go_wp2
      go_roundw
      case rel => exact ⟨m, v / 100 / 100 / 100 / 100, n + 3 + 1, _, congrArg (Value.int .u64) (by omega), congrArg (Value.int .i64) (by omega), by rw [AW3.out]; exact store2_world w blk off dk3 (n + 3) _ _ _ _ (by omega) (by omega), HI4.out⟩
      case measure => simp [intOf]; omega
    · have hv8 := HI0.out.small (by omega)
      have hc8 : nd = 0 ∨ nd = 1 ∨ nd = 2 ∨ nd = 3 ∨ nd = 4 ∨ nd = 5 ∨ nd = 6 ∨ nd = 7 := by omega
      rcases hc8 with rfl | rfl | rfl | rfl | rfl | rfl | rfl | rfl
      · have hleT := HI0.out.le
        have hltT := HI0.out.lt
        go_wp2
        go_end0
        exact ⟨rfl, n, by rw [AW0.out, ← HI0.out.done]⟩
      · have hleT := HI0.out.le
        have hltT := HI0.out.lt
        go_wp2
        go_end0
        exact ⟨rfl, n, by rw [AW0.out, ← HI0.out.step1]; exact store1_world0 w blk off dk0 n _ v (by omega) (by omega)⟩
      · have hleT := HI0.out.le
        have hltT := HI0.out.lt
        go_wp2
        have HI1 := hide (FbInv.step2 (show FbInv d u (0 + 2) (v) dk0 from HI0.out))
        have hle0 := HI0.out.le
        go_name_slot 16 x0 hx0
        have hxe0 : x0 = ((v % 100 * 2 : Nat) : Int) := by omega
        have hXa0 : ∀ w, (Instr.index 9 (.string Lib.smalls) (.int .u32 (x0 + 1))).run Tryf.prog w = .ok (.int .u8 ((sm (v % 100 * 2 + 1)).toNat : Int)) w := idx_smalls 9 Tryf.underlying9 .u32 _ _ (by omega) (by omega)
        have hXb0 : ∀ w, (Instr.index 9 (.string Lib.smalls) (.int .u32 x0)).run Tryf.prog w = .ok (.int .u8 ((sm (v % 100 * 2)).toNat : Int)) w := idx_smalls 9 Tryf.underlying9 .u32 _ _ (by omega) (by omega)
        have hlo0 : 0 ≤ x0 := by omega
        have hhi0 : x0 ≤ 198 := by omega
        clear hx0 hxe0
        go_region
        go_wp2
        go_end0
        exact ⟨rfl, n + 0 + 1, by rw [← HI1.out.done, AW0.out]; exact store2_world w blk off dk0 (n + 0) (0 + 1) 0 _ _ (by omega) (by omega)⟩
      · have hleT := HI0.out.le
        have hltT := HI0.out.lt
        go_wp2
        have HI1 := hide (FbInv.step2 (show FbInv d u (1 + 2) (v) dk0 from HI0.out))
        have hle0 := HI0.out.le
        go_name_slot 16 x0 hx0
        have hxe0 : x0 = ((v % 100 * 2 : Nat) : Int) := by omega
        have hXa0 : ∀ w, (Instr.index 9 (.string Lib.smalls) (.int .u32 (x0 + 1))).run Tryf.prog w = .ok (.int .u8 ((sm (v % 100 * 2 + 1)).toNat : Int)) w := idx_smalls 9 Tryf.underlying9 .u32 _ _ (by omega) (by omega)
        have hXb0 : ∀ w, (Instr.index 9 (.string Lib.smalls) (.int .u32 x0)).run Tryf.prog w = .ok (.int .u8 ((sm (v % 100 * 2)).toNat : Int)) w := idx_smalls 9 Tryf.underlying9 .u32 _ _ (by omega) (by omega)
        have hlo0 : 0 ≤ x0 := by omega
        have hhi0 : x0 ≤ 198 := by omega
        clear hx0 hxe0
        go_region
        go_wp2
        go_end0
        exact ⟨rfl, n + 0 + 1, by rw [← HI1.out.step1, AW0.out]; exact store21_world w blk off dk0 (n + 0) _ _ _ _ _ (v / 100) (by omega) (by omega) (by omega)⟩
      · have hleT := HI0.out.le
        have hltT := HI0.out.lt
        go_wp2
        have HI1 := hide (FbInv.step2 (show FbInv d u (2 + 2) (v) dk0 from HI0.out))
        have hle0 := HI0.out.le
        go_name_slot 15 x0 hx0
        have hxe0 : x0 = ((v % 100 * 2 : Nat) : Int) := by omega
        have hXa0 : ∀ w, (Instr.index 9 (.string Lib.smalls) (.int .u32 (x0 + 1))).run Tryf.prog w = .ok (.int .u8 ((sm (v % 100 * 2 + 1)).toNat : Int)) w := idx_smalls 9 Tryf.underlying9 .u32 _ _ (by omega) (by omega)
        have hXb0 : ∀ w, (Instr.index 9 (.string Lib.smalls) (.int .u32 x0)).run Tryf.prog w = .ok (.int .u8 ((sm (v % 100 * 2)).toNat : Int)) w := idx_smalls 9 Tryf.underlying9 .u32 _ _ (by omega) (by omega)
        have hlo0 : 0 ≤ x0 := by omega
        have hhi0 : x0 ≤ 198 := by omega
        clear hx0 hxe0
        go_region
        go_wp2
        go_name_world W1 hW1
        have hw1 : W1 = (putRow (fun (b : UInt8) => Value.int .u8 (b.toNat : Int)) w blk off ((dk0.setIfInBounds (2 + 1) (sm (v % 100 * 2 + 1))).setIfInBounds (2) (sm (v % 100 * 2)))).drewN (n + 0 + 1) := by rw [← hW1]; exact (by rw [AW0.out]; exact store2_world w blk off dk0 (n + 0) _ _ _ _ (by omega) (by omega))
        generalize ((dk0.setIfInBounds (2 + 1) (sm (v % 100 * 2 + 1))).setIfInBounds (2) (sm (v % 100 * 2))) = dk1 at hw1 HI1
        clear hW1 hc0 hf0 AW0 HI0 hXa0 hXb0 hs0
        have hs1 : dk1.size = d.size := HI1.out.size
        have hH1 : Holds (fun (b : UInt8) => Value.int .u8 (b.toNat : Int)) W1 blk off dk1 := by rw [hw1]; exact holds_putRow _ w blk off d dk1 AH.out hs1
        obtain ⟨G1, hG1⟩ : ∃ G : Nat → Int, ∀ t, G t = (dk1[t]!.toNat : Int) := ⟨_, fun _ => rfl⟩
        have hc1 : ∀ t, t < d.size → W1.cell? ⟨blk, off + t, none⟩ = some (.int .u8 (G1 t)) := fun t ht => by rw [hG1]; exact (hH1 t (by omega)).1
        have hf1 : ∀ t, t < d.size → W1.frozen? ⟨blk, off + t, none⟩ = false := fun t ht => (hH1 t (by omega)).2
        have AW1 := hide hw1
        clear hw1 hG1 hH1
        have HI2 := hide (FbInv.step2 (show FbInv d u (0 + 2) (v / 100) dk1 from HI1.out))
        have hle1 := HI1.out.le
        go_name_slot 14 x1 hx1
        have hxe1 : x1 = ((v / 100 % 100 * 2 : Nat) : Int) := by omega
        have hXa1 : ∀ w, (Instr.index 9 (.string Lib.smalls) (.int .u32 (x1 + 1))).run Tryf.prog w = .ok (.int .u8 ((sm (v / 100 % 100 * 2 + 1)).toNat : Int)) w := idx_smalls 9 Tryf.underlying9 .u32 _ _ (by omega) (by omega)
        have hXb1 : ∀ w, (Instr.index 9 (.string Lib.smalls) (.int .u32 x1)).run Tryf.prog w = .ok (.int .u8 ((sm (v / 100 % 100 * 2)).toNat : Int)) w := idx_smalls 9 Tryf.underlying9 .u32 _ _ (by omega) (by omega)
        have hlo1 : 0 ≤ x1 := by omega
        have hhi1 : x1 ≤ 198 := by omega
        clear hx1 hxe1
        go_region
        go_wp2
        go_end0
        exact ⟨rfl, n + 1 + 1, by rw [← HI2.out.done, AW1.out]; exact store2_world w blk off dk1 (n + 1) (0 + 1) 0 _ _ (by omega) (by omega)⟩
      · have hleT := HI0.out.le
        have hltT := HI0.out.lt
        go_wp2
        have HI1 := hide (FbInv.step2 (show FbInv d u (3 + 2) (v) dk0 from HI0.out))
        have hle0 := HI0.out.le
        go_name_slot 15 x0 hx0
        have hxe0 : x0 = ((v % 100 * 2 : Nat) : Int) := by omega
        have hXa0 : ∀ w, (Instr.index 9 (.string Lib.smalls) (.int .u32 (x0 + 1))).run Tryf.prog w = .ok (.int .u8 ((sm (v % 100 * 2 + 1)).toNat : Int)) w := idx_smalls 9 Tryf.underlying9 .u32 _ _ (by omega) (by omega)
        have hXb0 : ∀ w, (Instr.index 9 (.string Lib.smalls) (.int .u32 x0)).run Tryf.prog w = .ok (.int .u8 ((sm (v % 100 * 2)).toNat : Int)) w := idx_smalls 9 Tryf.underlying9 .u32 _ _ (by omega) (by omega)
        have hlo0 : 0 ≤ x0 := by omega
        have hhi0 : x0 ≤ 198 := by omega
        clear hx0 hxe0
        go_region
        go_wp2
        go_name_world W1 hW1
        have hw1 : W1 = (putRow (fun (b : UInt8) => Value.int .u8 (b.toNat : Int)) w blk off ((dk0.setIfInBounds (3 + 1) (sm (v % 100 * 2 + 1))).setIfInBounds (3) (sm (v % 100 * 2)))).drewN (n + 0 + 1) := by rw [← hW1]; exact (by rw [AW0.out]; exact store2_world w blk off dk0 (n + 0) _ _ _ _ (by omega) (by omega))
        generalize ((dk0.setIfInBounds (3 + 1) (sm (v % 100 * 2 + 1))).setIfInBounds (3) (sm (v % 100 * 2))) = dk1 at hw1 HI1
        clear hW1 hc0 hf0 AW0 HI0 hXa0 hXb0 hs0
        have hs1 : dk1.size = d.size := HI1.out.size
        have hH1 : Holds (fun (b : UInt8) => Value.int .u8 (b.toNat : Int)) W1 blk off dk1 := by rw [hw1]; exact holds_putRow _ w blk off d dk1 AH.out hs1
        obtain ⟨G1, hG1⟩ : ∃ G : Nat → Int, ∀ t, G t = (dk1[t]!.toNat : Int) := ⟨_, fun _ => rfl⟩
        have hc1 : ∀ t, t < d.size → W1.cell? ⟨blk, off + t, none⟩ = some (.int .u8 (G1 t)) := fun t ht => by rw [hG1]; exact (hH1 t (by omega)).1
        have hf1 : ∀ t, t < d.size → W1.frozen? ⟨blk, off + t, none⟩ = false := fun t ht => (hH1 t (by omega)).2
        have AW1 := hide hw1
        clear hw1 hG1 hH1
        have HI2 := hide (FbInv.step2 (show FbInv d u (1 + 2) (v / 100) dk1 from HI1.out))
        have hle1 := HI1.out.le
        go_name_slot 14 x1 hx1
        have hxe1 : x1 = ((v / 100 % 100 * 2 : Nat) : Int) := by omega
        have hXa1 : ∀ w, (Instr.index 9 (.string Lib.smalls) (.int .u32 (x1 + 1))).run Tryf.prog w = .ok (.int .u8 ((sm (v / 100 % 100 * 2 + 1)).toNat : Int)) w := idx_smalls 9 Tryf.underlying9 .u32 _ _ (by omega) (by omega)
        have hXb1 : ∀ w, (Instr.index 9 (.string Lib.smalls) (.int .u32 x1)).run Tryf.prog w = .ok (.int .u8 ((sm (v / 100 % 100 * 2)).toNat : Int)) w := idx_smalls 9 Tryf.underlying9 .u32 _ _ (by omega) (by omega)
        have hlo1 : 0 ≤ x1 := by omega
        have hhi1 : x1 ≤ 198 := by omega
        clear hx1 hxe1
        go_region
        go_wp2
        go_end0
        exact ⟨rfl, n + 1 + 1, by rw [← HI2.out.step1, AW1.out]; exact store21_world w blk off dk1 (n + 1) _ _ _ _ _ (v / 100 / 100) (by omega) (by omega) (by omega)⟩
      · have hleT := HI0.out.le
        have hltT := HI0.out.lt
        go_wp2
        have HI1 := hide (FbInv.step2 (show FbInv d u (4 + 2) (v) dk0 from HI0.out))
        have hle0 := HI0.out.le
        go_name_slot 15 x0 hx0
        have hxe0 : x0 = ((v % 100 * 2 : Nat) : Int) := by omega
        have hXa0 : ∀ w, (Instr.index 9 (.string Lib.smalls) (.int .u32 (x0 + 1))).run Tryf.prog w = .ok (.int .u8 ((sm (v % 100 * 2 + 1)).toNat : Int)) w := idx_smalls 9 Tryf.underlying9 .u32 _ _ (by omega) (by omega)
        have hXb0 : ∀ w, (Instr.index 9 (.string Lib.smalls) (.int .u32 x0)).run Tryf.prog w = .ok (.int .u8 ((sm (v % 100 * 2)).toNat : Int)) w := idx_smalls 9 Tryf.underlying9 .u32 _ _ (by omega) (by omega)
        have hlo0 : 0 ≤ x0 := by omega
        have hhi0 : x0 ≤ 198 := by omega
        clear hx0 hxe0
        go_region
        go_wp2
        go_name_world W1 hW1
        have hw1 : W1 = (putRow (fun (b : UInt8) => Value.int .u8 (b.toNat : Int)) w blk off ((dk0.setIfInBounds (4 + 1) (sm (v % 100 * 2 + 1))).setIfInBounds (4) (sm (v % 100 * 2)))).drewN (n + 0 + 1) := by rw [← hW1]; exact (by rw [AW0.out]; exact store2_world w blk off dk0 (n + 0) _ _ _ _ (by omega) (by omega))
        generalize ((dk0.setIfInBounds (4 + 1) (sm (v % 100 * 2 + 1))).setIfInBounds (4) (sm (v % 100 * 2))) = dk1 at hw1 HI1
        clear hW1 hc0 hf0 AW0 HI0 hXa0 hXb0 hs0
        have hs1 : dk1.size = d.size := HI1.out.size
        have hH1 : Holds (fun (b : UInt8) => Value.int .u8 (b.toNat : Int)) W1 blk off dk1 := by rw [hw1]; exact holds_putRow _ w blk off d dk1 AH.out hs1
        obtain ⟨G1, hG1⟩ : ∃ G : Nat → Int, ∀ t, G t = (dk1[t]!.toNat : Int) := ⟨_, fun _ => rfl⟩
        have hc1 : ∀ t, t < d.size → W1.cell? ⟨blk, off + t, none⟩ = some (.int .u8 (G1 t)) := fun t ht => by rw [hG1]; exact (hH1 t (by omega)).1
        have hf1 : ∀ t, t < d.size → W1.frozen? ⟨blk, off + t, none⟩ = false := fun t ht => (hH1 t (by omega)).2
        have AW1 := hide hw1
        clear hw1 hG1 hH1
        have HI2 := hide (FbInv.step2 (show FbInv d u (2 + 2) (v / 100) dk1 from HI1.out))
        have hle1 := HI1.out.le
        go_name_slot 14 x1 hx1
        have hxe1 : x1 = ((v / 100 % 100 * 2 : Nat) : Int) := by omega
        have hXa1 : ∀ w, (Instr.index 9 (.string Lib.smalls) (.int .u32 (x1 + 1))).run Tryf.prog w = .ok (.int .u8 ((sm (v / 100 % 100 * 2 + 1)).toNat : Int)) w := idx_smalls 9 Tryf.underlying9 .u32 _ _ (by omega) (by omega)
        have hXb1 : ∀ w, (Instr.index 9 (.string Lib.smalls) (.int .u32 x1)).run Tryf.prog w = .ok (.int .u8 ((sm (v / 100 % 100 * 2)).toNat : Int)) w := idx_smalls 9 Tryf.underlying9 .u32 _ _ (by omega) (by omega)
        have hlo1 : 0 ≤ x1 := by omega
        have hhi1 : x1 ≤ 198 := by omega
        clear hx1 hxe1
        go_region
        go_wp2
        go_name_world W2 hW2
        have hw2 : W2 = (putRow (fun (b : UInt8) => Value.int .u8 (b.toNat : Int)) w blk off ((dk1.setIfInBounds (2 + 1) (sm (v / 100 % 100 * 2 + 1))).setIfInBounds (2) (sm (v / 100 % 100 * 2)))).drewN (n + 1 + 1) := by rw [← hW2]; exact (by rw [AW1.out]; exact store2_world w blk off dk1 (n + 1) _ _ _ _ (by omega) (by omega))
        generalize ((dk1.setIfInBounds (2 + 1) (sm (v / 100 % 100 * 2 + 1))).setIfInBounds (2) (sm (v / 100 % 100 * 2))) = dk2 at hw2 HI2
        clear hW2 hc1 hf1 AW1 HI1 hXa1 hXb1 hs1
        have hs2 : dk2.size = d.size := HI2.out.size
        have hH2 : Holds (fun (b : UInt8) => Value.int .u8 (b.toNat : Int)) W2 blk off dk2 := by rw [hw2]; exact holds_putRow _ w blk off d dk2 AH.out hs2
        obtain ⟨G2, hG2⟩ : ∃ G : Nat → Int, ∀ t, G t = (dk2[t]!.toNat : Int) := ⟨_, fun _ => rfl⟩
        have hc2 : ∀ t, t < d.size → W2.cell? ⟨blk, off + t, none⟩ = some (.int .u8 (G2 t)) := fun t ht => by rw [hG2]; exact (hH2 t (by omega)).1
        have hf2 : ∀ t, t < d.size → W2.frozen? ⟨blk, off + t, none⟩ = false := fun t ht => (hH2 t (by omega)).2
        have AW2 := hide hw2
        clear hw2 hG2 hH2
        have HI3 := hide (FbInv.step2 (show FbInv d u (0 + 2) (v / 100 / 100) dk2 from HI2.out))
        have hle2 := HI2.out.le
        go_name_slot 16 x2 hx2
        have hxe2 : x2 = ((v / 100 / 100 % 100 * 2 : Nat) : Int) := by omega
        have hXa2 : ∀ w, (Instr.index 9 (.string Lib.smalls) (.int .u32 (x2 + 1))).run Tryf.prog w = .ok (.int .u8 ((sm (v / 100 / 100 % 100 * 2 + 1)).toNat : Int)) w := idx_smalls 9 Tryf.underlying9 .u32 _ _ (by omega) (by omega)
        have hXb2 : ∀ w, (Instr.index 9 (.string Lib.smalls) (.int .u32 x2)).run Tryf.prog w = .ok (.int .u8 ((sm (v / 100 / 100 % 100 * 2)).toNat : Int)) w := idx_smalls 9 Tryf.underlying9 .u32 _ _ (by omega) (by omega)
        have hlo2 : 0 ≤ x2 := by omega
        have hhi2 : x2 ≤ 198 := by omega
        clear hx2 hxe2
        go_region
        go_wp2
        go_end0
        exact ⟨rfl, n + 2 + 1, by rw [← HI3.out.done, AW2.out]; exact store2_world w blk off dk2 (n + 2) (0 + 1) 0 _ _ (by omega) (by omega)⟩
      · have hleT := HI0.out.le
        have hltT := HI0.out.lt
        go_wp2
        have HI1 := hide (FbInv.step2 (show FbInv d u (5 + 2) (v) dk0 from HI0.out))
        have hle0 := HI0.out.le
        go_name_slot 15 x0 hx0
        have hxe0 : x0 = ((v % 100 * 2 : Nat) : Int) := by omega
        have hXa0 : ∀ w, (Instr.index 9 (.string Lib.smalls) (.int .u32 (x0 + 1))).run Tryf.prog w = .ok (.int .u8 ((sm (v % 100 * 2 + 1)).toNat : Int)) w := idx_smalls 9 Tryf.underlying9 .u32 _ _ (by omega) (by omega)
        have hXb0 : ∀ w, (Instr.index 9 (.string Lib.smalls) (.int .u32 x0)).run Tryf.prog w = .ok (.int .u8 ((sm (v % 100 * 2)).toNat : Int)) w := idx_smalls 9 Tryf.underlying9 .u32 _ _ (by omega) (by omega)
        have hlo0 : 0 ≤ x0 := by omega
        have hhi0 : x0 ≤ 198 := by omega
        clear hx0 hxe0
        go_region
        go_wp2
        go_name_world W1 hW1
        have hw1 : W1 = (putRow (fun (b : UInt8) => Value.int .u8 (b.toNat : Int)) w blk off ((dk0.setIfInBounds (5 + 1) (sm (v % 100 * 2 + 1))).setIfInBounds (5) (sm (v % 100 * 2)))).drewN (n + 0 + 1) := by rw [← hW1]; exact (by rw [AW0.out]; exact store2_world w blk off dk0 (n + 0) _ _ _ _ (by omega) (by omega))
        generalize ((dk0.setIfInBounds (5 + 1) (sm (v % 100 * 2 + 1))).setIfInBounds (5) (sm (v % 100 * 2))) = dk1 at hw1 HI1
        clear hW1 hc0 hf0 AW0 HI0 hXa0 hXb0 hs0
        have hs1 : dk1.size = d.size := HI1.out.size
        have hH1 : Holds (fun (b : UInt8) => Value.int .u8 (b.toNat : Int)) W1 blk off dk1 := by rw [hw1]; exact holds_putRow _ w blk off d dk1 AH.out hs1
        obtain ⟨G1, hG1⟩ : ∃ G : Nat → Int, ∀ t, G t = (dk1[t]!.toNat : Int) := ⟨_, fun _ => rfl⟩
        have hc1 : ∀ t, t < d.size → W1.cell? ⟨blk, off + t, none⟩ = some (.int .u8 (G1 t)) := fun t ht => by rw [hG1]; exact (hH1 t (by omega)).1
        have hf1 : ∀ t, t < d.size → W1.frozen? ⟨blk, off + t, none⟩ = false := fun t ht => (hH1 t (by omega)).2
        have AW1 := hide hw1
        clear hw1 hG1 hH1
        have HI2 := hide (FbInv.step2 (show FbInv d u (3 + 2) (v / 100) dk1 from HI1.out))
        have hle1 := HI1.out.le
        go_name_slot 14 x1 hx1
        have hxe1 : x1 = ((v / 100 % 100 * 2 : Nat) : Int) := by omega
        have hXa1 : ∀ w, (Instr.index 9 (.string Lib.smalls) (.int .u32 (x1 + 1))).run Tryf.prog w = .ok (.int .u8 ((sm (v / 100 % 100 * 2 + 1)).toNat : Int)) w := idx_smalls 9 Tryf.underlying9 .u32 _ _ (by omega) (by omega)
        have hXb1 : ∀ w, (Instr.index 9 (.string Lib.smalls) (.int .u32 x1)).run Tryf.prog w = .ok (.int .u8 ((sm (v / 100 % 100 * 2)).toNat : Int)) w := idx_smalls 9 Tryf.underlying9 .u32 _ _ (by omega) (by omega)
        have hlo1 : 0 ≤ x1 := by omega
        have hhi1 : x1 ≤ 198 := by omega
        clear hx1 hxe1
        go_region
        go_wp2
        go_name_world W2 hW2
        have hw2 : W2 = (putRow (fun (b : UInt8) => Value.int .u8 (b.toNat : Int)) w blk off ((dk1.setIfInBounds (3 + 1) (sm (v / 100 % 100 * 2 + 1))).setIfInBounds (3) (sm (v / 100 % 100 * 2)))).drewN (n + 1 + 1) := by rw [← hW2]; exact (by rw [AW1.out]; exact store2_world w blk off dk1 (n + 1) _ _ _ _ (by omega) (by omega))
        generalize ((dk1.setIfInBounds (3 + 1) (sm (v / 100 % 100 * 2 + 1))).setIfInBounds (3) (sm (v / 100 % 100 * 2))) = dk2 at hw2 HI2
        clear hW2 hc1 hf1 AW1 HI1 hXa1 hXb1 hs1
        have hs2 : dk2.size = d.size := HI2.out.size
        have hH2 : Holds (fun (b : UInt8) => Value.int .u8 (b.toNat : Int)) W2 blk off dk2 := by rw [hw2]; exact holds_putRow _ w blk off d dk2 AH.out hs2
        obtain ⟨G2, hG2⟩ : ∃ G : Nat → Int, ∀ t, G t = (dk2[t]!.toNat : Int) := ⟨_, fun _ => rfl⟩
        have hc2 : ∀ t, t < d.size → W2.cell? ⟨blk, off + t, none⟩ = some (.int .u8 (G2 t)) := fun t ht => by rw [hG2]; exact (hH2 t (by omega)).1
        have hf2 : ∀ t, t < d.size → W2.frozen? ⟨blk, off + t, none⟩ = false := fun t ht => (hH2 t (by omega)).2
        have AW2 := hide hw2
        clear hw2 hG2 hH2
        have HI3 := hide (FbInv.step2 (show FbInv d u (1 + 2) (v / 100 / 100) dk2 from HI2.out))
        have hle2 := HI2.out.le
        go_name_slot 16 x2 hx2
        have hxe2 : x2 = ((v / 100 / 100 % 100 * 2 : Nat) : Int) := by omega
        have hXa2 : ∀ w, (Instr.index 9 (.string Lib.smalls) (.int .u32 (x2 + 1))).run Tryf.prog w = .ok (.int .u8 ((sm (v / 100 / 100 % 100 * 2 + 1)).toNat : Int)) w := idx_smalls 9 Tryf.underlying9 .u32 _ _ (by omega) (by omega)
        have hXb2 : ∀ w, (Instr.index 9 (.string Lib.smalls) (.int .u32 x2)).run Tryf.prog w = .ok (.int .u8 ((sm (v / 100 / 100 % 100 * 2)).toNat : Int)) w := idx_smalls 9 Tryf.underlying9 .u32 _ _ (by omega) (by omega)
        have hlo2 : 0 ≤ x2 := by omega
        have hhi2 : x2 ≤ 198 := by omega
        clear hx2 hxe2
        go_region
        go_wp2
        go_end0
        exact ⟨rfl, n + 2 + 1, by rw [← HI3.out.step1, AW2.out]; exact store21_world w blk off dk2 (n + 2) _ _ _ _ _ (v / 100 / 100 / 100) (by omega) (by omega) (by omega)⟩
end Go.Proofs.YtdmmiiniikdapaaFmt
