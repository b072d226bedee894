/- The law FnWritePaddingAdditive walked: the call returns true and writes nothing that was there. Its conditions: none beyond the arguments' types. -/
import Derived.Test.YtmpdcljnghaekaaDoorProg
import Derived.Test.YtmpdcljnghaekaaDoorBase
import Derived.Test.YtmpdcljnghaekaaDoorRows
import Derived.Handy
import Derived.Outline
import Derived.WalkLawsBesides
import Derived.WalkSpells
import Derived.Deep.QuietTactic
import Derived.BigQuiet
import Derived.RegionTactic
import Derived.ChangeAlike
import Derived.Test.YtmpdcljnghaekaaDoorLaid
import Derived.Test.YtmpdcljnghaekaaDoorFm
import Derived.Test.YtmpdcljnghaekaaDoorPadding
import Derived.Test.YtmpdcljnghaekaaDoorClone
import Derived.Test.YtmpdcljnghaekaaDoorEq
import Derived.MakeChecks
namespace Go.Proofs.YtmpdcljnghaekaaDoor.fnWritePaddingAdditive
open Go.RowKit Go.Proofs.YtmpdcljnghaekaaDoor
theorem maxCell {w : World} (hL : laidMetH Tryd.prog Rows.fnWritePaddingAdditiveRow.laid w) : w.cell? ⟨0, 0, none⟩ = some (.int .i64 2147483647) := by
  rw [MakeChecks.laidMetH_plain _ _ _ (by kernel_rfl)] at hL
  exact laid_int (t := 3) hL (n := "github.com/d5/tengo/v2.MaxStringLen") (by simp [Rows.fnWritePaddingAdditiveRow, Rows.laid_github_com_d5_tengo_v2_MaxStringLen]) (by kernel_rfl) (by kernel_rfl) Tryd.underlying3
theorem zero49 (w : World) : (zeroValue 49).run Tryd.prog w = .ok (.agg #[.pointer none, .bool false, .bool false, .bool false, .bool false, .bool false, .bool false, .bool false, .bool false, .bool false, .bool false, .bool false, .bool false, .int .i64 0, .int .i64 0, .int .u8 0, .int .u8 0, .int .u8 0, .int .u8 0, .int .u8 0, .int .u8 0, .int .u8 0, .int .u8 0, .int .u8 0, .int .u8 0, .int .u8 0, .int .u8 0, .int .u8 0, .int .u8 0, .int .u8 0, .int .u8 0, .int .u8 0, .int .u8 0, .int .u8 0, .int .u8 0, .int .u8 0, .int .u8 0, .int .u8 0, .int .u8 0, .int .u8 0, .int .u8 0, .int .u8 0, .int .u8 0, .int .u8 0, .int .u8 0, .int .u8 0, .int .u8 0, .int .u8 0, .int .u8 0, .int .u8 0, .int .u8 0, .int .u8 0, .int .u8 0, .int .u8 0, .int .u8 0, .int .u8 0, .int .u8 0, .int .u8 0, .int .u8 0, .int .u8 0, .int .u8 0, .int .u8 0, .int .u8 0, .int .u8 0, .int .u8 0, .int .u8 0, .int .u8 0, .int .u8 0, .int .u8 0, .int .u8 0, .int .u8 0, .int .u8 0, .int .u8 0, .int .u8 0, .int .u8 0, .int .u8 0, .int .u8 0, .int .u8 0, .int .u8 0, .int .u8 0, .int .u8 0, .int .u8 0, .int .u8 0]) w := by kernel_rfl
attribute [local go_sem] zero49
theorem padding_nat (fb pb base n : Nat) (F : Array Value) (xs : List Value) (m : Nat) (z : Bool) (w : World) (h : Fm w fb pb base n F xs) (hz : F[7]? = some (.bool z)) (hM : w.cell? ⟨0, 0, none⟩ = some (.int .i64 2147483647)) (hn : n ≤ 4194304) (hk : m ≤ 4194304) (hone : ∀ v ∈ xs, v.oneCell' = true) :
    Calls Tryd.prog 36 #[.pointer (some ⟨fb, 0, none⟩), .int .i64 (m : Int)] w (Padded fb pb base (n + m) F (xs ++ padL z m) w) :=
  padding_any fb pb base n F xs m z w h hz hM hn (by omega) (by omega) hone
theorem padL_map (z : Bool) (m : Nat) : padL z m = (List.replicate m (pby z)).map bt := by simp [padL]
theorem padL_one (z : Bool) (xs : List UInt8) (m : Nat) : ∀ v ∈ xs.map bt ++ padL z m, v.oneCell' = true := by
  rw [padL_map, ← List.map_append]
  exact bts_one _
set_option linter.unusedVariables false in
set_option maxRecDepth 100000 in
set_option maxHeartbeats 4000000 in
theorem walk (a0 : Option Addr) (len0 cap0 : Nat) (z0 : List UInt8) (a1 : Int) (a2 : Int) (a3 : Bool) (w : World) (w0 : SlIn w w.heap.size a0 len0 cap0 (z0.map bt)) (w1 : (Lit.int .i64 a1).wf = true) (w2 : (Lit.int .i64 a2).wf = true) (hL : laidMetH Tryd.prog Rows.fnWritePaddingAdditiveRow.laid w) :
    Calls Tryd.prog 9 #[.slice a0 len0 cap0, .int .i64 a1, .int .i64 a2, .bool a3] w fun e w' => e = .returned (.bool true) ∧ Below w.heap.size w w' := by
  have t0 := w0.top
  have l0 := w0.le
  unfold maxLen at t0
  have HM := hide (maxCell hL)
  have HP : Hid (0 < w.heap.size) := World.block_lt_of_cell? w _ HM.out
  have S0 := hide w0
  clear hL w0
  by_cases h : len0 ≤ 1048576
  · by_cases h1 : 0 ≤ a1 ∧ a1 ≤ 65536 ∧ 0 ≤ a2 ∧ a2 ≤ 65536
    · obtain ⟨h11, h12, h13, h14⟩ := h1
      obtain ⟨n1, rfl⟩ : ∃ n1 : Nat, a1 = (n1 : Int) := ⟨a1.toNat, by omega⟩
      obtain ⟨n2, rfl⟩ : ∃ n2 : Nat, a2 = (n2 : Int) := ⟨a2.toNat, by omega⟩
      go_enter Tryd.func9, Tryd.ntmps9
      go_wp2_with (go_at_call 30; go_in)
      refine (clone_any a0 len0 cap0 z0 w S0.out (by omega)).mono ?_
      rintro e w1 ⟨A1, c1, rfl, ho1, hb1⟩
      have O1 := hide (SlIn.of_own ho1)
      have B1 := hide hb1
      have M1 := hide (cellOn HM.out hb1 HP.out)
      have P1 : Hid (0 < w1.heap.size) := Nat.lt_of_lt_of_le HP.out hb1.size
      clear ho1 hb1
      go_wp2_with fail
      refine (clone_any A1 len0 c1 z0 w1 O1.out (by omega)).mono ?_
      rintro e w2 ⟨A2, c2, rfl, ho2, hb2⟩
      have O2 := hide ho2
      have B2 := hide hb2
      clear ho2 hb2
      go_wp2_with (first | (go_at_call 13; go_in) | (go_at_call 31; go_in) | (go_at_call 33; go_in) | (go_at_call 15; go_in) | (go_at_call 26; go_in))
      have FM2 := hide (Fm.new O2.out B2.out.size (F := #[.pointer (some ⟨w2.heap.size, 0, none⟩), .bool false, .bool false, .bool false, .bool false, .bool false, .bool false, .bool a3, .bool false, .bool false, .bool false, .bool false, .bool false, .int .i64 0, .int .i64 0, .int .u8 0, .int .u8 0, .int .u8 0, .int .u8 0, .int .u8 0, .int .u8 0, .int .u8 0, .int .u8 0, .int .u8 0, .int .u8 0, .int .u8 0, .int .u8 0, .int .u8 0, .int .u8 0, .int .u8 0, .int .u8 0, .int .u8 0, .int .u8 0, .int .u8 0, .int .u8 0, .int .u8 0, .int .u8 0, .int .u8 0, .int .u8 0, .int .u8 0, .int .u8 0, .int .u8 0, .int .u8 0, .int .u8 0, .int .u8 0, .int .u8 0, .int .u8 0, .int .u8 0, .int .u8 0, .int .u8 0, .int .u8 0, .int .u8 0, .int .u8 0, .int .u8 0, .int .u8 0, .int .u8 0, .int .u8 0, .int .u8 0, .int .u8 0, .int .u8 0, .int .u8 0, .int .u8 0, .int .u8 0, .int .u8 0, .int .u8 0, .int .u8 0, .int .u8 0, .int .u8 0, .int .u8 0, .int .u8 0, .int .u8 0, .int .u8 0, .int .u8 0, .int .u8 0, .int .u8 0, .int .u8 0, .int .u8 0, .int .u8 0, .int .u8 0, .int .u8 0, .int .u8 0, .int .u8 0, .int .u8 0]) rfl)
      have BW2 : Hid (Below w2.heap.size w2 _) := (((Below.refl w2.heap.size w2).alloc (Nat.le_refl _) (.cells #[.slice A2 len0 c2] 43)).alloc (by simp) (.cells #[.pointer (some ⟨w2.heap.size, 0, none⟩), .bool false, .bool false, .bool false, .bool false, .bool false, .bool false, .bool a3, .bool false, .bool false, .bool false, .bool false, .bool false, .int .i64 0, .int .i64 0, .int .u8 0, .int .u8 0, .int .u8 0, .int .u8 0, .int .u8 0, .int .u8 0, .int .u8 0, .int .u8 0, .int .u8 0, .int .u8 0, .int .u8 0, .int .u8 0, .int .u8 0, .int .u8 0, .int .u8 0, .int .u8 0, .int .u8 0, .int .u8 0, .int .u8 0, .int .u8 0, .int .u8 0, .int .u8 0, .int .u8 0, .int .u8 0, .int .u8 0, .int .u8 0, .int .u8 0, .int .u8 0, .int .u8 0, .int .u8 0, .int .u8 0, .int .u8 0, .int .u8 0, .int .u8 0, .int .u8 0, .int .u8 0, .int .u8 0, .int .u8 0, .int .u8 0, .int .u8 0, .int .u8 0, .int .u8 0, .int .u8 0, .int .u8 0, .int .u8 0, .int .u8 0, .int .u8 0, .int .u8 0, .int .u8 0, .int .u8 0, .int .u8 0, .int .u8 0, .int .u8 0, .int .u8 0, .int .u8 0, .int .u8 0, .int .u8 0, .int .u8 0, .int .u8 0, .int .u8 0, .int .u8 0, .int .u8 0, .int .u8 0, .int .u8 0, .int .u8 0, .int .u8 0, .int .u8 0, .int .u8 0] 49))
      obtain ⟨W2, hW⟩ : ∃ W2 : World, W2 = (w2.alloc (.cells #[.slice A2 len0 c2] 43)).alloc (.cells #[.pointer (some ⟨w2.heap.size, 0, none⟩), .bool false, .bool false, .bool false, .bool false, .bool false, .bool false, .bool a3, .bool false, .bool false, .bool false, .bool false, .bool false, .int .i64 0, .int .i64 0, .int .u8 0, .int .u8 0, .int .u8 0, .int .u8 0, .int .u8 0, .int .u8 0, .int .u8 0, .int .u8 0, .int .u8 0, .int .u8 0, .int .u8 0, .int .u8 0, .int .u8 0, .int .u8 0, .int .u8 0, .int .u8 0, .int .u8 0, .int .u8 0, .int .u8 0, .int .u8 0, .int .u8 0, .int .u8 0, .int .u8 0, .int .u8 0, .int .u8 0, .int .u8 0, .int .u8 0, .int .u8 0, .int .u8 0, .int .u8 0, .int .u8 0, .int .u8 0, .int .u8 0, .int .u8 0, .int .u8 0, .int .u8 0, .int .u8 0, .int .u8 0, .int .u8 0, .int .u8 0, .int .u8 0, .int .u8 0, .int .u8 0, .int .u8 0, .int .u8 0, .int .u8 0, .int .u8 0, .int .u8 0, .int .u8 0, .int .u8 0, .int .u8 0, .int .u8 0, .int .u8 0, .int .u8 0, .int .u8 0, .int .u8 0, .int .u8 0, .int .u8 0, .int .u8 0, .int .u8 0, .int .u8 0, .int .u8 0, .int .u8 0, .int .u8 0, .int .u8 0, .int .u8 0, .int .u8 0, .int .u8 0] 49) := ⟨_, rfl⟩
      rw [← hW] at FM2 BW2 ⊢
      clear hW
      have B12 : Hid (Below w1.heap.size w1 W2) := B2.out.trans (BW2.out.mono B2.out.size)
      refine (padding_nat _ _ _ len0 _ (z0.map bt) n1 a3 W2 FM2.out rfl (cellOn M1.out B12.out P1.out) (by omega) (by omega) (bts_one z0)).mono ?_
      rintro e w3 ⟨rfl, fm3, b3⟩
      have FM3 := hide fm3
      have B13 : Hid (Below w1.heap.size w1 w3) := B12.out.trans b3
      clear fm3 b3
      go_wp2_with (go_at_call 26; go_in)
      refine (padding_nat _ _ _ (len0 + n1) _ _ n2 a3 w3 FM3.out rfl (cellOn M1.out B13.out P1.out) (by omega) (by omega) (padL_one a3 z0 n1)).mono ?_
      rintro e w4 ⟨rfl, fm4, b4⟩
      have FM4 := hide fm4
      have B14 : Hid (Below w1.heap.size w1 w4) := B13.out.trans b4
      clear fm4 b4
      go_wp2_with fail
      refine (clone_any A1 len0 c1 z0 w4 ((O1.out.below B14.out (Nat.le_refl _)).mono B14.out.size) (by omega)).mono ?_
      rintro e w5 ⟨A5, c5, rfl, ho5, hb5⟩
      have O5 := hide ho5
      have B5 := hide hb5
      clear ho5 hb5
      go_wp2_with (first | (go_at_call 13; go_in) | (go_at_call 31; go_in) | (go_at_call 33; go_in) | (go_at_call 15; go_in) | (go_at_call 26; go_in))
      have FM5 := hide (Fm.new O5.out B5.out.size (F := #[.pointer (some ⟨w5.heap.size, 0, none⟩), .bool false, .bool false, .bool false, .bool false, .bool false, .bool false, .bool a3, .bool false, .bool false, .bool false, .bool false, .bool false, .int .i64 0, .int .i64 0, .int .u8 0, .int .u8 0, .int .u8 0, .int .u8 0, .int .u8 0, .int .u8 0, .int .u8 0, .int .u8 0, .int .u8 0, .int .u8 0, .int .u8 0, .int .u8 0, .int .u8 0, .int .u8 0, .int .u8 0, .int .u8 0, .int .u8 0, .int .u8 0, .int .u8 0, .int .u8 0, .int .u8 0, .int .u8 0, .int .u8 0, .int .u8 0, .int .u8 0, .int .u8 0, .int .u8 0, .int .u8 0, .int .u8 0, .int .u8 0, .int .u8 0, .int .u8 0, .int .u8 0, .int .u8 0, .int .u8 0, .int .u8 0, .int .u8 0, .int .u8 0, .int .u8 0, .int .u8 0, .int .u8 0, .int .u8 0, .int .u8 0, .int .u8 0, .int .u8 0, .int .u8 0, .int .u8 0, .int .u8 0, .int .u8 0, .int .u8 0, .int .u8 0, .int .u8 0, .int .u8 0, .int .u8 0, .int .u8 0, .int .u8 0, .int .u8 0, .int .u8 0, .int .u8 0, .int .u8 0, .int .u8 0, .int .u8 0, .int .u8 0, .int .u8 0, .int .u8 0, .int .u8 0, .int .u8 0, .int .u8 0]) rfl)
      have BW5 : Hid (Below w5.heap.size w5 _) := (((Below.refl w5.heap.size w5).alloc (Nat.le_refl _) (.cells #[.slice A5 len0 c5] 43)).alloc (by simp) (.cells #[.pointer (some ⟨w5.heap.size, 0, none⟩), .bool false, .bool false, .bool false, .bool false, .bool false, .bool false, .bool a3, .bool false, .bool false, .bool false, .bool false, .bool false, .int .i64 0, .int .i64 0, .int .u8 0, .int .u8 0, .int .u8 0, .int .u8 0, .int .u8 0, .int .u8 0, .int .u8 0, .int .u8 0, .int .u8 0, .int .u8 0, .int .u8 0, .int .u8 0, .int .u8 0, .int .u8 0, .int .u8 0, .int .u8 0, .int .u8 0, .int .u8 0, .int .u8 0, .int .u8 0, .int .u8 0, .int .u8 0, .int .u8 0, .int .u8 0, .int .u8 0, .int .u8 0, .int .u8 0, .int .u8 0, .int .u8 0, .int .u8 0, .int .u8 0, .int .u8 0, .int .u8 0, .int .u8 0, .int .u8 0, .int .u8 0, .int .u8 0, .int .u8 0, .int .u8 0, .int .u8 0, .int .u8 0, .int .u8 0, .int .u8 0, .int .u8 0, .int .u8 0, .int .u8 0, .int .u8 0, .int .u8 0, .int .u8 0, .int .u8 0, .int .u8 0, .int .u8 0, .int .u8 0, .int .u8 0, .int .u8 0, .int .u8 0, .int .u8 0, .int .u8 0, .int .u8 0, .int .u8 0, .int .u8 0, .int .u8 0, .int .u8 0, .int .u8 0, .int .u8 0, .int .u8 0, .int .u8 0, .int .u8 0] 49))
      obtain ⟨W5, hW⟩ : ∃ W5 : World, W5 = (w5.alloc (.cells #[.slice A5 len0 c5] 43)).alloc (.cells #[.pointer (some ⟨w5.heap.size, 0, none⟩), .bool false, .bool false, .bool false, .bool false, .bool false, .bool false, .bool a3, .bool false, .bool false, .bool false, .bool false, .bool false, .int .i64 0, .int .i64 0, .int .u8 0, .int .u8 0, .int .u8 0, .int .u8 0, .int .u8 0, .int .u8 0, .int .u8 0, .int .u8 0, .int .u8 0, .int .u8 0, .int .u8 0, .int .u8 0, .int .u8 0, .int .u8 0, .int .u8 0, .int .u8 0, .int .u8 0, .int .u8 0, .int .u8 0, .int .u8 0, .int .u8 0, .int .u8 0, .int .u8 0, .int .u8 0, .int .u8 0, .int .u8 0, .int .u8 0, .int .u8 0, .int .u8 0, .int .u8 0, .int .u8 0, .int .u8 0, .int .u8 0, .int .u8 0, .int .u8 0, .int .u8 0, .int .u8 0, .int .u8 0, .int .u8 0, .int .u8 0, .int .u8 0, .int .u8 0, .int .u8 0, .int .u8 0, .int .u8 0, .int .u8 0, .int .u8 0, .int .u8 0, .int .u8 0, .int .u8 0, .int .u8 0, .int .u8 0, .int .u8 0, .int .u8 0, .int .u8 0, .int .u8 0, .int .u8 0, .int .u8 0, .int .u8 0, .int .u8 0, .int .u8 0, .int .u8 0, .int .u8 0, .int .u8 0, .int .u8 0, .int .u8 0, .int .u8 0, .int .u8 0] 49) := ⟨_, rfl⟩
      rw [← hW] at FM5 BW5 ⊢
      clear hW
      have B45 : Hid (Below w4.heap.size w4 W5) := B5.out.trans (BW5.out.mono B5.out.size)
      have B15 : Hid (Below w1.heap.size w1 W5) := B14.out.trans (B45.out.mono B14.out.size)
      have E := hide (padding_nat _ _ _ len0 _ (z0.map bt) (n1 + n2) a3 W5 FM5.out rfl (cellOn M1.out B15.out P1.out) (by omega) (by omega) (bts_one z0))
      rw [Int.natCast_add] at E
      refine E.out.mono ?_
      rintro e w6 ⟨rfl, fm6, b6⟩
      clear E
      have FM6 := hide fm6
      have B46 : Hid (Below w4.heap.size w4 w6) := B45.out.trans b6
      have FM4b := hide (FM4.out.below B46.out (Nat.le_refl _))
      have g1 := FM4b.out.cell FM4b.out.ptr
      have g2 := FM6.out.cell FM6.out.ptr
      obtain ⟨Ax, cx, hbx, hox⟩ := FM4b.out.holds
      obtain ⟨Ay, cy, hby, hoy⟩ := FM6.out.holds
      have x1 := cell_of_one hbx
      have y1 := cell_of_one hby
      have SX : Hid (SlIn w6 w6.heap.size Ax (len0 + n1 + n2) cx ((z0 ++ List.replicate n1 (pby a3) ++ List.replicate n2 (pby a3)).map bt)) := by
        have := SlIn.of_own hox
        rw [padL_map, padL_map] at this
        simpa [Hid, List.map_append] using this
      have SY : Hid (SlIn w6 w6.heap.size Ay (len0 + (n1 + n2)) cy ((z0 ++ List.replicate (n1 + n2) (pby a3)).map bt)) := by
        have := SlIn.of_own hoy
        rw [padL_map] at this
        simpa [Hid, List.map_append] using this
      have B16 : Hid (Below w1.heap.size w1 w6) := B14.out.trans (B46.out.mono B14.out.size)
      have lcx := SX.out.le
      have tcx := SX.out.top
      unfold maxLen at tcx
      clear fm6 b6 hbx hox hby hoy
      go_wp2_with (go_at_call 18; go_in)
      refine (eq_any Ax Ay _ cx _ cy _ _ w6 SX.out SY.out (by omega) (by omega)).mono ?_
      rintro e w7 ⟨rfl, q, rfl⟩
      have hbb : ((z0 ++ List.replicate n1 (pby a3) ++ List.replicate n2 (pby a3)) == (z0 ++ List.replicate (n1 + n2) (pby a3))) = true := by
        rw [List.append_assoc, List.replicate_append_replicate]; simp
      rw [hbb]
      clear hbb
      go_wp2_with fail
      have SP := SX.out.pre (k := len0) (by omega)
      rw [List.append_assoc, List.map_append, List.take_left' (by simp [O1.out.size])] at SP
      refine (eq_any Ax A1 len0 cx len0 c1 z0 z0 (w6.drewN q) (SP.drewN q) (((O1.out.below B16.out (Nat.le_refl _)).mono B16.out.size).drewN q) (by omega) (by omega)).mono ?_
      rintro e w8 ⟨rfl, q2, rfl⟩
      have hbb : (z0 == z0) = true := by simp
      go_wp2
      go_ret
      refine ⟨by simp, below_drewN ?_ _⟩
      exact B1.out.trans (B16.out.mono B1.out.size)
    · have hw1 := bounds_i64 w1
      have hw2 := bounds_i64 w2
      go_enter Tryd.func9, Tryd.ntmps9
      go_wp2
      all_goals go_ret
      all_goals exact ⟨rfl, Below.refl _ _⟩
  · go_enter Tryd.func9, Tryd.ntmps9
    go_wp2
    all_goals go_ret
    all_goals exact ⟨rfl, Below.refl _ _⟩
end Go.Proofs.YtmpdcljnghaekaaDoor.fnWritePaddingAdditive
