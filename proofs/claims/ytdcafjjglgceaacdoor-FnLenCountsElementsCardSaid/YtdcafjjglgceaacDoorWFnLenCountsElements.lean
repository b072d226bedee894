/- The law FnLenCountsElements walked: the call returns true and writes nothing that was there. Its conditions: none beyond the arguments' types. -/
import Derived.Test.YtdcafjjglgceaacDoorProg
import Derived.Test.YtdcafjjglgceaacDoorBase
import Derived.Test.YtdcafjjglgceaacDoorRows
import Derived.Handy
import Derived.Outline
import Derived.WalkLawsBesides
import Derived.WalkSpells
import Derived.Deep.QuietTactic
import Derived.BigQuiet
import Derived.RegionTactic
import Derived.ChangeAlike
import Derived.Test.YtdcafjjglgceaacDoorBytes
import Derived.Maps.Own
import Derived.Maps.OwnSet
import Derived.Maps.OwnOps
namespace Go.Proofs.YtdcafjjglgceaacDoor.fnLenCountsElements
open Go.RowKit Go.Proofs.YtdcafjjglgceaacDoor
theorem ta33_33 (v : Value) (w : World) : (Instr.typeAssert (.iface 33 v) 28 33 true).run Tryd.prog w = .ok (.tuple #[v, .bool true]) w := by kernel_rfl
theorem ta39_33 (v : Value) (w : World) : (Instr.typeAssert (.iface 39 v) 28 33 true).run Tryd.prog w = .ok (.tuple #[.pointer none, .bool false]) w := by kernel_rfl
theorem ta39_39 (v : Value) (w : World) : (Instr.typeAssert (.iface 39 v) 28 39 true).run Tryd.prog w = .ok (.tuple #[v, .bool true]) w := by kernel_rfl
theorem ta41_33 (v : Value) (w : World) : (Instr.typeAssert (.iface 41 v) 28 33 true).run Tryd.prog w = .ok (.tuple #[.pointer none, .bool false]) w := by kernel_rfl
theorem ta41_39 (v : Value) (w : World) : (Instr.typeAssert (.iface 41 v) 28 39 true).run Tryd.prog w = .ok (.tuple #[.pointer none, .bool false]) w := by kernel_rfl
theorem ta41_41 (v : Value) (w : World) : (Instr.typeAssert (.iface 41 v) 28 41 true).run Tryd.prog w = .ok (.tuple #[v, .bool true]) w := by kernel_rfl
theorem ta45_33 (v : Value) (w : World) : (Instr.typeAssert (.iface 45 v) 28 33 true).run Tryd.prog w = .ok (.tuple #[.pointer none, .bool false]) w := by kernel_rfl
theorem ta45_39 (v : Value) (w : World) : (Instr.typeAssert (.iface 45 v) 28 39 true).run Tryd.prog w = .ok (.tuple #[.pointer none, .bool false]) w := by kernel_rfl
theorem ta45_41 (v : Value) (w : World) : (Instr.typeAssert (.iface 45 v) 28 41 true).run Tryd.prog w = .ok (.tuple #[.pointer none, .bool false]) w := by kernel_rfl
theorem ta45_45 (v : Value) (w : World) : (Instr.typeAssert (.iface 45 v) 28 45 true).run Tryd.prog w = .ok (.tuple #[v, .bool true]) w := by kernel_rfl
theorem ta49_33 (v : Value) (w : World) : (Instr.typeAssert (.iface 49 v) 28 33 true).run Tryd.prog w = .ok (.tuple #[.pointer none, .bool false]) w := by kernel_rfl
theorem ta49_39 (v : Value) (w : World) : (Instr.typeAssert (.iface 49 v) 28 39 true).run Tryd.prog w = .ok (.tuple #[.pointer none, .bool false]) w := by kernel_rfl
theorem ta49_41 (v : Value) (w : World) : (Instr.typeAssert (.iface 49 v) 28 41 true).run Tryd.prog w = .ok (.tuple #[.pointer none, .bool false]) w := by kernel_rfl
theorem ta49_45 (v : Value) (w : World) : (Instr.typeAssert (.iface 49 v) 28 45 true).run Tryd.prog w = .ok (.tuple #[.pointer none, .bool false]) w := by kernel_rfl
theorem ta49_49 (v : Value) (w : World) : (Instr.typeAssert (.iface 49 v) 28 49 true).run Tryd.prog w = .ok (.tuple #[v, .bool true]) w := by kernel_rfl
theorem ta52_33 (v : Value) (w : World) : (Instr.typeAssert (.iface 52 v) 28 33 true).run Tryd.prog w = .ok (.tuple #[.pointer none, .bool false]) w := by kernel_rfl
theorem ta52_39 (v : Value) (w : World) : (Instr.typeAssert (.iface 52 v) 28 39 true).run Tryd.prog w = .ok (.tuple #[.pointer none, .bool false]) w := by kernel_rfl
theorem ta52_41 (v : Value) (w : World) : (Instr.typeAssert (.iface 52 v) 28 41 true).run Tryd.prog w = .ok (.tuple #[.pointer none, .bool false]) w := by kernel_rfl
theorem ta52_45 (v : Value) (w : World) : (Instr.typeAssert (.iface 52 v) 28 45 true).run Tryd.prog w = .ok (.tuple #[.pointer none, .bool false]) w := by kernel_rfl
theorem ta52_49 (v : Value) (w : World) : (Instr.typeAssert (.iface 52 v) 28 49 true).run Tryd.prog w = .ok (.tuple #[.pointer none, .bool false]) w := by kernel_rfl
theorem ta52_52 (v : Value) (w : World) : (Instr.typeAssert (.iface 52 v) 28 52 true).run Tryd.prog w = .ok (.tuple #[v, .bool true]) w := by kernel_rfl
theorem taI (v : Value) (w : World) : (Instr.typeAssert (.iface 55 v) 28 55 true).run Tryd.prog w = .ok (.tuple #[v, .bool true]) w := by kernel_rfl
attribute [local go_sem] ta33_33 ta39_33 ta39_39 ta41_33 ta41_39 ta41_41 ta45_33 ta45_39 ta45_41 ta45_45 ta49_33 ta49_39 ta49_41 ta49_45 ta49_49 ta52_33 ta52_39 ta52_41 ta52_45 ta52_49 ta52_52 taI
theorem sl_of {w2 w' : World} {A : Option Addr} {n c : Nat} {xs : List Value} (hb : Below w2.heap.size w2 w') (h : SlIn w2 w2.heap.size A n c xs) : SlIn w' w'.heap.size A n c xs := (h.below hb (Nat.le_refl _)).mono hb.size
theorem info_obj : (Tryd.prog.info? 28).map (fun i => (i.zero, i.size, i.bytes)) = some (some .nilIface, 1, 16) := by kernel_rfl
theorem makeMap_hint (n : Int) (w : World) : (Instr.makeMap 48 (some (.int .i64 n))).run Tryd.prog w = .ok (.map (some w.heap.size)) (w.alloc (.map #[] 0)) := by
  simp [Instr.makeMap, run_underlying Tryd.underlying48]; rfl
theorem law9 : Maps.Keyed Tryd.prog 9 := Maps.string_keyed Tryd.underlying9
def nilElem : Value → Option (DataW Unit × List MemPlace) := fun _ => some (.nil, [])
set_option maxRecDepth 100000 in
set_option linter.unusedVariables false in
set_option maxHeartbeats 4000000 in
theorem k0 (a1 : Int) (a2 : ByteArray) (a3 : Option Addr) (len3 cap3 : Nat) (z3 : List UInt8) (a4 : Option Addr) (len4 cap4 : Nat) (z4 : List ByteArray) (w : World) (h2 : a2.size ≤ 1048576) (h3 : len3 ≤ 1048576) (h4 : len4 ≤ 4096) (hn0 : 0 ≤ a1) (hn1 : a1 ≤ 65536)
    (w3 : SlIn w w.heap.size a3 len3 cap3 (z3.map bt)) (w4 : SlIn w w.heap.size a4 len4 cap4 (z4.map Value.string)) (wf4 : ∀ s ∈ z4, s.size ≤ maxLen) :
    Calls Tryd.prog 3 #[.int .i64 0, .int .i64 a1, .string a2, .slice a3 len3 cap3, .slice a4 len4 cap4] w fun e w' => e = .returned (.bool true) ∧ Below w.heap.size w w' := by
  have S3 := hide w3
  have S4 := hide w4
  have W4 := hide wf4
  obtain ⟨i, hi, hz0, hz1, hz2⟩ := info_parts info_obj
  clear w3 w4 wf4
  go_enter Tryd.func3, Tryd.ntmps3
  go_wp2_with fail
  refine (bytes_any 0 a1 a2 a3 len3 cap3 a4 len4 cap4 z4 w (by omega) (by omega) (by omega) S4.out).mono ?_
  rintro e w' ⟨b, rfl, rfl⟩
  cases b with
  | false =>
    go_wp2
    go_ret
    exact ⟨rfl, Below.refl _ _⟩
  | true =>
    go_wp2_with fail
    go_loop [11, 12] (fun t ix => ∃ (k : Nat) (x : Int), k ≤ len4 ∧ ix = .int .i64 k ∧ t = .int .i64 x) (fun _ ix => len4 - (intOf ix).toNat)
    case atStart => exact ⟨0, _, Nat.zero_le _, rfl, rfl⟩
    case round =>
      obtain ⟨k, x, hk, rfl, rfl⟩ := hrel
      by_cases hlt : k < len4
      · obtain ⟨b, off, y, hA, hb, hx, hc⟩ := S4.out.str hlt
        subst hA
        clear hx
        go_wp2
        go_round
        case rel => exact ⟨k + 1, _, by omega, by go_num, rfl⟩
        case measure => simp [intOf]; omega
      · by_cases hx : x ≤ 1048576
        · go_wp2_with fail
          refine (clone_any a3 len3 cap3 z3 w S3.out (by omega)).mono ?_
          rintro e w1 ⟨A3, c3, rfl, ho1, hb1⟩
          have X1 := hide (SlIn.of_own ho1)
          have B1 := hide hb1
          clear ho1 hb1
          go_wp2_with fail
          refine (cloneS_any a4 len4 cap4 z4 w1 (sl_of B1.out S4.out) (by omega)).mono ?_
          rintro e w2 ⟨A4, c4, rfl, ho2, hb2⟩
          have Y2 := hide (SlIn.of_own ho2)
          have B2 := hide (B1.out.trans (hb2.mono B1.out.size))
          have hsz := B2.out.size
          clear ho2 hb2 B1
          obtain ⟨n, rfl⟩ : ∃ n : Nat, a1 = (n : Int) := ⟨a1.toNat, by omega⟩
          have he : ((n : Int) == (n : Int)) = true := by simp
          go_wp2_with (first | (at_make; refine wpList_make_full _ rfl _ _ 34 rfl w2.heap.size 28 i .nilIface 1 Tryd.underlying34 hi hz0 hz1 _ _ _ _ n rfl rfl (by simp) (by simp) (by rw [hz2]; omega) (by unfold maxLen; omega) (Nat.le_refl _) ?_; intro w3 hown3 hgrow3; have B3 := hide (B2.out.grown hgrow3 hsz (fun k hk => by cases hk)); clear hown3 hgrow3) | (go_at_call 7; go_in) | (go_at_call 10; go_in) | (go_at_call 9; go_in))
          go_ret
          refine ⟨by simp, ?_⟩
          have hz3 := B3.out.size
          exact (((B3.out.alloc hz3 _).alloc (by simp; omega) _).alloc (by simp; omega) _)
        · go_wp2
          go_ret
          exact ⟨rfl, Below.refl _ _⟩
set_option maxRecDepth 100000 in
set_option linter.unusedVariables false in
set_option maxHeartbeats 4000000 in
theorem k1 (a1 : Int) (a2 : ByteArray) (a3 : Option Addr) (len3 cap3 : Nat) (z3 : List UInt8) (a4 : Option Addr) (len4 cap4 : Nat) (z4 : List ByteArray) (w : World) (h2 : a2.size ≤ 1048576) (h3 : len3 ≤ 1048576) (h4 : len4 ≤ 4096) (hn0 : 0 ≤ a1) (hn1 : a1 ≤ 65536)
    (w3 : SlIn w w.heap.size a3 len3 cap3 (z3.map bt)) (w4 : SlIn w w.heap.size a4 len4 cap4 (z4.map Value.string)) (wf4 : ∀ s ∈ z4, s.size ≤ maxLen) :
    Calls Tryd.prog 3 #[.int .i64 1, .int .i64 a1, .string a2, .slice a3 len3 cap3, .slice a4 len4 cap4] w fun e w' => e = .returned (.bool true) ∧ Below w.heap.size w w' := by
  have S3 := hide w3
  have S4 := hide w4
  have W4 := hide wf4
  obtain ⟨i, hi, hz0, hz1, hz2⟩ := info_parts info_obj
  clear w3 w4 wf4
  go_enter Tryd.func3, Tryd.ntmps3
  go_wp2_with fail
  refine (bytes_any 1 a1 a2 a3 len3 cap3 a4 len4 cap4 z4 w (by omega) (by omega) (by omega) S4.out).mono ?_
  rintro e w' ⟨b, rfl, rfl⟩
  cases b with
  | false =>
    go_wp2
    go_ret
    exact ⟨rfl, Below.refl _ _⟩
  | true =>
    go_wp2_with fail
    go_loop [11, 12] (fun t ix => ∃ (k : Nat) (x : Int), k ≤ len4 ∧ ix = .int .i64 k ∧ t = .int .i64 x) (fun _ ix => len4 - (intOf ix).toNat)
    case atStart => exact ⟨0, _, Nat.zero_le _, rfl, rfl⟩
    case round =>
      obtain ⟨k, x, hk, rfl, rfl⟩ := hrel
      by_cases hlt : k < len4
      · obtain ⟨b, off, y, hA, hb, hx, hc⟩ := S4.out.str hlt
        subst hA
        clear hx
        go_wp2
        go_round
        case rel => exact ⟨k + 1, _, by omega, by go_num, rfl⟩
        case measure => simp [intOf]; omega
      · by_cases hx : x ≤ 1048576
        · go_wp2_with fail
          refine (clone_any a3 len3 cap3 z3 w S3.out (by omega)).mono ?_
          rintro e w1 ⟨A3, c3, rfl, ho1, hb1⟩
          have X1 := hide (SlIn.of_own ho1)
          have B1 := hide hb1
          clear ho1 hb1
          go_wp2_with fail
          refine (cloneS_any a4 len4 cap4 z4 w1 (sl_of B1.out S4.out) (by omega)).mono ?_
          rintro e w2 ⟨A4, c4, rfl, ho2, hb2⟩
          have Y2 := hide (SlIn.of_own ho2)
          have B2 := hide (B1.out.trans (hb2.mono B1.out.size))
          have hsz := B2.out.size
          clear ho2 hb2 B1
          obtain ⟨n, rfl⟩ : ∃ n : Nat, a1 = (n : Int) := ⟨a1.toNat, by omega⟩
          have he : ((n : Int) == (n : Int)) = true := by simp
          go_wp2_with (first | (at_make; refine wpList_make_full _ rfl _ _ 34 rfl w2.heap.size 28 i .nilIface 1 Tryd.underlying34 hi hz0 hz1 _ _ _ _ n rfl rfl (by simp) (by simp) (by rw [hz2]; omega) (by unfold maxLen; omega) (Nat.le_refl _) ?_; intro w3 hown3 hgrow3; have B3 := hide (B2.out.grown hgrow3 hsz (fun k hk => by cases hk)); clear hown3 hgrow3) | (go_at_call 7; go_in) | (go_at_call 10; go_in) | (go_at_call 9; go_in))
          go_ret
          refine ⟨by simp, ?_⟩
          have hz3 := B3.out.size
          exact (((B3.out.alloc hz3 _).alloc (by simp; omega) _).alloc (by simp; omega) _)
        · go_wp2
          go_ret
          exact ⟨rfl, Below.refl _ _⟩
set_option maxRecDepth 100000 in
set_option linter.unusedVariables false in
set_option maxHeartbeats 4000000 in
theorem k2 (a1 : Int) (a2 : ByteArray) (a3 : Option Addr) (len3 cap3 : Nat) (z3 : List UInt8) (a4 : Option Addr) (len4 cap4 : Nat) (z4 : List ByteArray) (w : World) (h2 : a2.size ≤ 1048576) (h3 : len3 ≤ 1048576) (h4 : len4 ≤ 4096) (hn0 : 0 ≤ a1) (hn1 : a1 ≤ 65536)
    (w3 : SlIn w w.heap.size a3 len3 cap3 (z3.map bt)) (w4 : SlIn w w.heap.size a4 len4 cap4 (z4.map Value.string)) (wf4 : ∀ s ∈ z4, s.size ≤ maxLen) :
    Calls Tryd.prog 3 #[.int .i64 2, .int .i64 a1, .string a2, .slice a3 len3 cap3, .slice a4 len4 cap4] w fun e w' => e = .returned (.bool true) ∧ Below w.heap.size w w' := by
  have S3 := hide w3
  have S4 := hide w4
  have W4 := hide wf4
  obtain ⟨i, hi, hz0, hz1, hz2⟩ := info_parts info_obj
  clear w3 w4 wf4
  go_enter Tryd.func3, Tryd.ntmps3
  go_wp2_with fail
  refine (bytes_any 2 a1 a2 a3 len3 cap3 a4 len4 cap4 z4 w (by omega) (by omega) (by omega) S4.out).mono ?_
  rintro e w' ⟨b, rfl, rfl⟩
  cases b with
  | false =>
    go_wp2
    go_ret
    exact ⟨rfl, Below.refl _ _⟩
  | true =>
    go_wp2_with fail
    go_loop [11, 12] (fun t ix => ∃ (k : Nat) (x : Int), k ≤ len4 ∧ ix = .int .i64 k ∧ t = .int .i64 x) (fun _ ix => len4 - (intOf ix).toNat)
    case atStart => exact ⟨0, _, Nat.zero_le _, rfl, rfl⟩
    case round =>
      obtain ⟨k, x, hk, rfl, rfl⟩ := hrel
      by_cases hlt : k < len4
      · obtain ⟨b, off, y, hA, hb, hx, hc⟩ := S4.out.str hlt
        subst hA
        clear hx
        go_wp2
        go_round
        case rel => exact ⟨k + 1, _, by omega, by go_num, rfl⟩
        case measure => simp [intOf]; omega
      · by_cases hx : x ≤ 1048576
        · go_wp2_with fail
          refine (clone_any a3 len3 cap3 z3 w S3.out (by omega)).mono ?_
          rintro e w1 ⟨A3, c3, rfl, ho1, hb1⟩
          have X1 := hide (SlIn.of_own ho1)
          have B1 := hide hb1
          clear ho1 hb1
          go_wp2_with fail
          refine (cloneS_any a4 len4 cap4 z4 w1 (sl_of B1.out S4.out) (by omega)).mono ?_
          rintro e w2 ⟨A4, c4, rfl, ho2, hb2⟩
          have Y2 := hide (SlIn.of_own ho2)
          have B2 := hide (B1.out.trans (hb2.mono B1.out.size))
          have hsz := B2.out.size
          clear ho2 hb2 B1
          have he : ((a2.size : Int) == (a2.size : Int)) = true := by simp
          go_wp2_with (first | (go_at_call 7; go_in) | (go_at_call 10; go_in) | (go_at_call 9; go_in))
          go_ret
          refine ⟨by simp, ?_⟩
          exact (((B2.out.alloc hsz _).alloc (by simp; omega) _).alloc (by simp; omega) _)
        · go_wp2
          go_ret
          exact ⟨rfl, Below.refl _ _⟩
set_option maxRecDepth 100000 in
set_option linter.unusedVariables false in
set_option maxHeartbeats 4000000 in
theorem k3 (a1 : Int) (a2 : ByteArray) (a3 : Option Addr) (len3 cap3 : Nat) (z3 : List UInt8) (a4 : Option Addr) (len4 cap4 : Nat) (z4 : List ByteArray) (w : World) (h2 : a2.size ≤ 1048576) (h3 : len3 ≤ 1048576) (h4 : len4 ≤ 4096) (hn0 : 0 ≤ a1) (hn1 : a1 ≤ 65536)
    (w3 : SlIn w w.heap.size a3 len3 cap3 (z3.map bt)) (w4 : SlIn w w.heap.size a4 len4 cap4 (z4.map Value.string)) (wf4 : ∀ s ∈ z4, s.size ≤ maxLen) :
    Calls Tryd.prog 3 #[.int .i64 3, .int .i64 a1, .string a2, .slice a3 len3 cap3, .slice a4 len4 cap4] w fun e w' => e = .returned (.bool true) ∧ Below w.heap.size w w' := by
  have S3 := hide w3
  have S4 := hide w4
  have W4 := hide wf4
  obtain ⟨i, hi, hz0, hz1, hz2⟩ := info_parts info_obj
  clear w3 w4 wf4
  go_enter Tryd.func3, Tryd.ntmps3
  go_wp2_with fail
  refine (bytes_any 3 a1 a2 a3 len3 cap3 a4 len4 cap4 z4 w (by omega) (by omega) (by omega) S4.out).mono ?_
  rintro e w' ⟨b, rfl, rfl⟩
  cases b with
  | false =>
    go_wp2
    go_ret
    exact ⟨rfl, Below.refl _ _⟩
  | true =>
    go_wp2_with fail
    go_loop [11, 12] (fun t ix => ∃ (k : Nat) (x : Int), k ≤ len4 ∧ ix = .int .i64 k ∧ t = .int .i64 x) (fun _ ix => len4 - (intOf ix).toNat)
    case atStart => exact ⟨0, _, Nat.zero_le _, rfl, rfl⟩
    case round =>
      obtain ⟨k, x, hk, rfl, rfl⟩ := hrel
      by_cases hlt : k < len4
      · obtain ⟨b, off, y, hA, hb, hx, hc⟩ := S4.out.str hlt
        subst hA
        clear hx
        go_wp2
        go_round
        case rel => exact ⟨k + 1, _, by omega, by go_num, rfl⟩
        case measure => simp [intOf]; omega
      · by_cases hx : x ≤ 1048576
        · go_wp2_with fail
          refine (clone_any a3 len3 cap3 z3 w S3.out (by omega)).mono ?_
          rintro e w1 ⟨A3, c3, rfl, ho1, hb1⟩
          have X1 := hide (SlIn.of_own ho1)
          have B1 := hide hb1
          clear ho1 hb1
          go_wp2_with fail
          refine (cloneS_any a4 len4 cap4 z4 w1 (sl_of B1.out S4.out) (by omega)).mono ?_
          rintro e w2 ⟨A4, c4, rfl, ho2, hb2⟩
          have Y2 := hide (SlIn.of_own ho2)
          have B2 := hide (B1.out.trans (hb2.mono B1.out.size))
          have hsz := B2.out.size
          clear ho2 hb2 B1
          have he : ((len3 : Int) == (len3 : Int)) = true := by simp
          go_wp2_with (first | (go_at_call 7; go_in) | (go_at_call 10; go_in) | (go_at_call 9; go_in))
          go_ret
          refine ⟨by simp, ?_⟩
          exact (((B2.out.alloc hsz _).alloc (by simp; omega) _).alloc (by simp; omega) _)
        · go_wp2
          go_ret
          exact ⟨rfl, Below.refl _ _⟩
set_option maxRecDepth 100000 in
set_option linter.unusedVariables false in
set_option maxHeartbeats 4000000 in
theorem k4 (a1 : Int) (a2 : ByteArray) (a3 : Option Addr) (len3 cap3 : Nat) (z3 : List UInt8) (a4 : Option Addr) (len4 cap4 : Nat) (z4 : List ByteArray) (w : World) (h2 : a2.size ≤ 1048576) (h3 : len3 ≤ 1048576) (h4 : len4 ≤ 4096) (hn0 : 0 ≤ a1) (hn1 : a1 ≤ 65536)
    (w3 : SlIn w w.heap.size a3 len3 cap3 (z3.map bt)) (w4 : SlIn w w.heap.size a4 len4 cap4 (z4.map Value.string)) (wf4 : ∀ s ∈ z4, s.size ≤ maxLen) :
    Calls Tryd.prog 3 #[.int .i64 4, .int .i64 a1, .string a2, .slice a3 len3 cap3, .slice a4 len4 cap4] w fun e w' => e = .returned (.bool true) ∧ Below w.heap.size w w' := by
  have S3 := hide w3
  have S4 := hide w4
  have W4 := hide wf4
  obtain ⟨i, hi, hz0, hz1, hz2⟩ := info_parts info_obj
  clear w3 w4 wf4
  go_enter Tryd.func3, Tryd.ntmps3
  go_wp2_with fail
  refine (bytes_any 4 a1 a2 a3 len3 cap3 a4 len4 cap4 z4 w (by omega) (by omega) (by omega) S4.out).mono ?_
  rintro e w' ⟨b, rfl, rfl⟩
  cases b with
  | false =>
    go_wp2
    go_ret
    exact ⟨rfl, Below.refl _ _⟩
  | true =>
    go_wp2_with fail
    go_loop [11, 12] (fun t ix => ∃ (k : Nat) (x : Int), k ≤ len4 ∧ ix = .int .i64 k ∧ t = .int .i64 x) (fun _ ix => len4 - (intOf ix).toNat)
    case atStart => exact ⟨0, _, Nat.zero_le _, rfl, rfl⟩
    case round =>
      obtain ⟨k, x, hk, rfl, rfl⟩ := hrel
      by_cases hlt : k < len4
      · obtain ⟨b, off, y, hA, hb, hx, hc⟩ := S4.out.str hlt
        subst hA
        clear hx
        go_wp2
        go_round
        case rel => exact ⟨k + 1, _, by omega, by go_num, rfl⟩
        case measure => simp [intOf]; omega
      · by_cases hx : x ≤ 1048576
        · go_wp2_with fail
          refine (clone_any a3 len3 cap3 z3 w S3.out (by omega)).mono ?_
          rintro e w1 ⟨A3, c3, rfl, ho1, hb1⟩
          have X1 := hide (SlIn.of_own ho1)
          have B1 := hide hb1
          clear ho1 hb1
          go_wp2_with fail
          refine (cloneS_any a4 len4 cap4 z4 w1 (sl_of B1.out S4.out) (by omega)).mono ?_
          rintro e w2 ⟨A4, c4, rfl, ho2, hb2⟩
          have Y2 := hide (SlIn.of_own ho2)
          have B2 := hide (B1.out.trans (hb2.mono B1.out.size))
          have hsz := B2.out.size
          clear ho2 hb2 B1
          have hmm := makeMap_hint
          go_wp2_with fail
          have M0 : Hid ((w2.alloc (.map #[] 0)).ownsMap Tryd.prog 9 nilElem w2.heap.size 0 (Maps.setOf .nil (lits (z4.take 0)))) := World.ownsMap_made _ _ _ _
          have B3 : Hid (Below w2.heap.size w2 (w2.alloc (.map #[] 0))) := (Below.refl _ _).alloc (Nat.le_refl _) _
          go_loopw [17] (fun ix wr => ∃ k : Nat, k ≤ len4 ∧ ix = .int .i64 k ∧ Hid (wr.ownsMap Tryd.prog 9 nilElem w2.heap.size k (Maps.setOf .nil (lits (z4.take k)))) ∧ Hid (Below w2.heap.size w2 wr)) (fun ix _ => len4 - (intOf ix).toNat)
          case atStart => exact ⟨0, Nat.zero_le _, rfl, M0, B3⟩
          case round =>
            obtain ⟨k, hk, rfl, M, B⟩ := hrel
            clear M0 B3
            by_cases hlt : k < len4
            · obtain ⟨b, off, x, hA, hb, hx, hc⟩ := (Y2.out.below B.out (Nat.le_refl _)).str hlt
              subst hA
              have hkey := Go.WideMaps.keyOf_string_mk Tryd.underlying9 (W4.out x (List.mem_of_getElem? hx))
              have HX := hide hx
              clear hx
              have hbz := B.out.size
              go_wp2_with (at_mapUpdate; refine wpList_mapUpdate_own _ rfl _ _ _ 48 rfl 9 28 law9 Tryd.underlying48 nilElem w2.heap.size k _ rfl M.out (by unfold maxLen; omega) _ _ _ rfl rfl hkey _ [] rfl ?_; intro w5 hown5 hgrow5; have M5 := hide hown5; have B5 := hide (B.out.grown hgrow5 hbz (fun g hg => by cases hg; exact Nat.le_refl _)); clear hown5 hgrow5)
              go_roundw
              case rel => exact ⟨k + 1, by omega, by go_num, hide (by rw [lits_snoc HX.out, Maps.setOf_snoc]; exact M5.out), B5⟩
              case measure => simp [intOf]; omega
            · obtain rfl : len4 = k := by omega
              have hbz := B.out.size
              have Y3 := hide (sl_of B.out Y2.out)
              have he : ((Maps.size (Maps.setOf (H := Unit) .nil (lits (z4.take len4))) : Int) == (cnt z4 len4 : Int)) = true := by simp [cnt]
              go_wp2_with (first | (at_len; refine wpList_len_own _ rfl _ 48 rfl 9 28 Tryd.underlying48 nilElem w2.heap.size len4 _ rfl ((M.out.alloc _).alloc _) ?_) | (go_at_call 7; go_in) | (go_at_call 10; go_in) | (go_at_call 9; go_in))
              refine (distinct_any A4 len4 c4 z4 _ ?_ ?_).mono ?_
              · exact h4
              · exact (((Y3.out.alloc (Nat.le_refl _) _).alloc (by simp) _).alloc (by simp; omega) _).mono (by simp; omega)
              rintro e w6 ⟨rfl, q, rfl⟩
              go_wp2_with (first | (go_at_call 7; go_in) | (go_at_call 10; go_in) | (go_at_call 9; go_in))
              go_ret
              refine ⟨by simp, ?_⟩
              have B6 := B2.out.trans (B.out.mono hsz)
              exact below_drewN (((B6.alloc B6.size _).alloc (by simp; omega) _).alloc (by simp; omega) _) _
        · go_wp2
          go_ret
          exact ⟨rfl, Below.refl _ _⟩
set_option maxRecDepth 100000 in
set_option linter.unusedVariables false in
set_option maxHeartbeats 4000000 in
theorem k5 (a1 : Int) (a2 : ByteArray) (a3 : Option Addr) (len3 cap3 : Nat) (z3 : List UInt8) (a4 : Option Addr) (len4 cap4 : Nat) (z4 : List ByteArray) (w : World) (h2 : a2.size ≤ 1048576) (h3 : len3 ≤ 1048576) (h4 : len4 ≤ 4096) (hn0 : 0 ≤ a1) (hn1 : a1 ≤ 65536)
    (w3 : SlIn w w.heap.size a3 len3 cap3 (z3.map bt)) (w4 : SlIn w w.heap.size a4 len4 cap4 (z4.map Value.string)) (wf4 : ∀ s ∈ z4, s.size ≤ maxLen) :
    Calls Tryd.prog 3 #[.int .i64 5, .int .i64 a1, .string a2, .slice a3 len3 cap3, .slice a4 len4 cap4] w fun e w' => e = .returned (.bool true) ∧ Below w.heap.size w w' := by
  have S3 := hide w3
  have S4 := hide w4
  have W4 := hide wf4
  obtain ⟨i, hi, hz0, hz1, hz2⟩ := info_parts info_obj
  clear w3 w4 wf4
  go_enter Tryd.func3, Tryd.ntmps3
  go_wp2_with fail
  refine (bytes_any 5 a1 a2 a3 len3 cap3 a4 len4 cap4 z4 w (by omega) (by omega) (by omega) S4.out).mono ?_
  rintro e w' ⟨b, rfl, rfl⟩
  cases b with
  | false =>
    go_wp2
    go_ret
    exact ⟨rfl, Below.refl _ _⟩
  | true =>
    go_wp2_with fail
    go_loop [11, 12] (fun t ix => ∃ (k : Nat) (x : Int), k ≤ len4 ∧ ix = .int .i64 k ∧ t = .int .i64 x) (fun _ ix => len4 - (intOf ix).toNat)
    case atStart => exact ⟨0, _, Nat.zero_le _, rfl, rfl⟩
    case round =>
      obtain ⟨k, x, hk, rfl, rfl⟩ := hrel
      by_cases hlt : k < len4
      · obtain ⟨b, off, y, hA, hb, hx, hc⟩ := S4.out.str hlt
        subst hA
        clear hx
        go_wp2
        go_round
        case rel => exact ⟨k + 1, _, by omega, by go_num, rfl⟩
        case measure => simp [intOf]; omega
      · by_cases hx : x ≤ 1048576
        · go_wp2_with fail
          refine (clone_any a3 len3 cap3 z3 w S3.out (by omega)).mono ?_
          rintro e w1 ⟨A3, c3, rfl, ho1, hb1⟩
          have X1 := hide (SlIn.of_own ho1)
          have B1 := hide hb1
          clear ho1 hb1
          go_wp2_with fail
          refine (cloneS_any a4 len4 cap4 z4 w1 (sl_of B1.out S4.out) (by omega)).mono ?_
          rintro e w2 ⟨A4, c4, rfl, ho2, hb2⟩
          have Y2 := hide (SlIn.of_own ho2)
          have B2 := hide (B1.out.trans (hb2.mono B1.out.size))
          have hsz := B2.out.size
          clear ho2 hb2 B1
          have hmm := makeMap_hint
          go_wp2_with fail
          have M0 : Hid ((w2.alloc (.map #[] 0)).ownsMap Tryd.prog 9 nilElem w2.heap.size 0 (Maps.setOf .nil (lits (z4.take 0)))) := World.ownsMap_made _ _ _ _
          have B3 : Hid (Below w2.heap.size w2 (w2.alloc (.map #[] 0))) := (Below.refl _ _).alloc (Nat.le_refl _) _
          go_loopw [17] (fun ix wr => ∃ k : Nat, k ≤ len4 ∧ ix = .int .i64 k ∧ Hid (wr.ownsMap Tryd.prog 9 nilElem w2.heap.size k (Maps.setOf .nil (lits (z4.take k)))) ∧ Hid (Below w2.heap.size w2 wr)) (fun ix _ => len4 - (intOf ix).toNat)
          case atStart => exact ⟨0, Nat.zero_le _, rfl, M0, B3⟩
          case round =>
            obtain ⟨k, hk, rfl, M, B⟩ := hrel
            clear M0 B3
            by_cases hlt : k < len4
            · obtain ⟨b, off, x, hA, hb, hx, hc⟩ := (Y2.out.below B.out (Nat.le_refl _)).str hlt
              subst hA
              have hkey := Go.WideMaps.keyOf_string_mk Tryd.underlying9 (W4.out x (List.mem_of_getElem? hx))
              have HX := hide hx
              clear hx
              have hbz := B.out.size
              go_wp2_with (at_mapUpdate; refine wpList_mapUpdate_own _ rfl _ _ _ 48 rfl 9 28 law9 Tryd.underlying48 nilElem w2.heap.size k _ rfl M.out (by unfold maxLen; omega) _ _ _ rfl rfl hkey _ [] rfl ?_; intro w5 hown5 hgrow5; have M5 := hide hown5; have B5 := hide (B.out.grown hgrow5 hbz (fun g hg => by cases hg; exact Nat.le_refl _)); clear hown5 hgrow5)
              go_roundw
              case rel => exact ⟨k + 1, by omega, by go_num, hide (by rw [lits_snoc HX.out, Maps.setOf_snoc]; exact M5.out), B5⟩
              case measure => simp [intOf]; omega
            · obtain rfl : len4 = k := by omega
              have hbz := B.out.size
              have Y3 := hide (sl_of B.out Y2.out)
              have he : ((Maps.size (Maps.setOf (H := Unit) .nil (lits (z4.take len4))) : Int) == (cnt z4 len4 : Int)) = true := by simp [cnt]
              go_wp2_with (first | (at_len; refine wpList_len_own _ rfl _ 48 rfl 9 28 Tryd.underlying48 nilElem w2.heap.size len4 _ rfl ((M.out.alloc _).alloc _) ?_) | (go_at_call 7; go_in) | (go_at_call 10; go_in) | (go_at_call 9; go_in))
              refine (distinct_any A4 len4 c4 z4 _ ?_ ?_).mono ?_
              · exact h4
              · exact (((Y3.out.alloc (Nat.le_refl _) _).alloc (by simp) _).alloc (by simp; omega) _).mono (by simp; omega)
              rintro e w6 ⟨rfl, q, rfl⟩
              go_wp2_with (first | (go_at_call 7; go_in) | (go_at_call 10; go_in) | (go_at_call 9; go_in))
              go_ret
              refine ⟨by simp, ?_⟩
              have B6 := B2.out.trans (B.out.mono hsz)
              exact below_drewN (((B6.alloc B6.size _).alloc (by simp; omega) _).alloc (by simp; omega) _) _
        · go_wp2
          go_ret
          exact ⟨rfl, Below.refl _ _⟩
set_option maxRecDepth 100000 in
set_option linter.unusedVariables false in
set_option maxHeartbeats 2000000 in
theorem e2 (a0 a1 : Int) (a2 : ByteArray) (a3 : Option Addr) (len3 cap3 : Nat) (a4 : Option Addr) (len4 cap4 : Nat) (z4 : List ByteArray) (w : World) (g2 : a2.size ≤ 9223372036854775807) (g3 : len3 ≤ 9223372036854775807) (g4 : len4 ≤ 9223372036854775807) (h2 : 1048576 < a2.size) (w4 : SlIn w w.heap.size a4 len4 cap4 (z4.map Value.string)) :
    Calls Tryd.prog 3 #[.int .i64 a0, .int .i64 a1, .string a2, .slice a3 len3 cap3, .slice a4 len4 cap4] w fun e w' => e = .returned (.bool true) ∧ Below w.heap.size w w' := by
  have S4 := hide w4
  clear w4
  go_enter Tryd.func3, Tryd.ntmps3
  go_wp2_with fail
  refine (bytes_any a0 a1 a2 a3 len3 cap3 a4 len4 cap4 z4 w (by omega) (by omega) (by omega) S4.out).mono ?_
  rintro e w' ⟨b, rfl, rfl⟩
  cases b with
  | false =>
    go_wp2
    go_ret
    exact ⟨rfl, Below.refl _ _⟩
  | true =>
    go_wp2
    go_ret
    exact ⟨rfl, Below.refl _ _⟩
set_option maxRecDepth 100000 in
set_option linter.unusedVariables false in
set_option maxHeartbeats 2000000 in
theorem e3 (a0 a1 : Int) (a2 : ByteArray) (a3 : Option Addr) (len3 cap3 : Nat) (a4 : Option Addr) (len4 cap4 : Nat) (z4 : List ByteArray) (w : World) (g2 : a2.size ≤ 9223372036854775807) (g3 : len3 ≤ 9223372036854775807) (g4 : len4 ≤ 9223372036854775807) (h2 : a2.size ≤ 1048576) (h3 : 1048576 < len3) (w4 : SlIn w w.heap.size a4 len4 cap4 (z4.map Value.string)) :
    Calls Tryd.prog 3 #[.int .i64 a0, .int .i64 a1, .string a2, .slice a3 len3 cap3, .slice a4 len4 cap4] w fun e w' => e = .returned (.bool true) ∧ Below w.heap.size w w' := by
  have S4 := hide w4
  clear w4
  go_enter Tryd.func3, Tryd.ntmps3
  go_wp2_with fail
  refine (bytes_any a0 a1 a2 a3 len3 cap3 a4 len4 cap4 z4 w (by omega) (by omega) (by omega) S4.out).mono ?_
  rintro e w' ⟨b, rfl, rfl⟩
  cases b with
  | false =>
    go_wp2
    go_ret
    exact ⟨rfl, Below.refl _ _⟩
  | true =>
    go_wp2
    go_ret
    exact ⟨rfl, Below.refl _ _⟩
set_option maxRecDepth 100000 in
set_option linter.unusedVariables false in
set_option maxHeartbeats 2000000 in
theorem e4 (a0 a1 : Int) (a2 : ByteArray) (a3 : Option Addr) (len3 cap3 : Nat) (a4 : Option Addr) (len4 cap4 : Nat) (z4 : List ByteArray) (w : World) (g2 : a2.size ≤ 9223372036854775807) (g3 : len3 ≤ 9223372036854775807) (g4 : len4 ≤ 9223372036854775807) (h2 : a2.size ≤ 1048576) (h3 : len3 ≤ 1048576) (h4 : 4096 < len4) (w4 : SlIn w w.heap.size a4 len4 cap4 (z4.map Value.string)) :
    Calls Tryd.prog 3 #[.int .i64 a0, .int .i64 a1, .string a2, .slice a3 len3 cap3, .slice a4 len4 cap4] w fun e w' => e = .returned (.bool true) ∧ Below w.heap.size w w' := by
  have S4 := hide w4
  clear w4
  go_enter Tryd.func3, Tryd.ntmps3
  go_wp2_with fail
  refine (bytes_any a0 a1 a2 a3 len3 cap3 a4 len4 cap4 z4 w (by omega) (by omega) (by omega) S4.out).mono ?_
  rintro e w' ⟨b, rfl, rfl⟩
  cases b with
  | false =>
    go_wp2
    go_ret
    exact ⟨rfl, Below.refl _ _⟩
  | true =>
    go_wp2
    go_ret
    exact ⟨rfl, Below.refl _ _⟩
set_option maxRecDepth 100000 in
set_option linter.unusedVariables false in
set_option maxHeartbeats 2000000 in
theorem f0 (a0 a1 : Int) (a2 : ByteArray) (a3 : Option Addr) (len3 cap3 : Nat) (a4 : Option Addr) (len4 cap4 : Nat) (z4 : List ByteArray) (w : World) (h2 : a2.size ≤ 1048576) (h3 : len3 ≤ 1048576) (h4 : len4 ≤ 4096) (hk : a0 < 0) (w4 : SlIn w w.heap.size a4 len4 cap4 (z4.map Value.string)) :
    Calls Tryd.prog 3 #[.int .i64 a0, .int .i64 a1, .string a2, .slice a3 len3 cap3, .slice a4 len4 cap4] w fun e w' => e = .returned (.bool true) ∧ Below w.heap.size w w' := by
  have S4 := hide w4
  clear w4
  go_enter Tryd.func3, Tryd.ntmps3
  go_wp2_with fail
  refine (bytes_any a0 a1 a2 a3 len3 cap3 a4 len4 cap4 z4 w (by omega) (by omega) (by omega) S4.out).mono ?_
  rintro e w' ⟨b, rfl, rfl⟩
  cases b with
  | false =>
    go_wp2
    go_ret
    exact ⟨rfl, Below.refl _ _⟩
  | true =>
    go_wp2_with fail
    go_loop [11, 12] (fun t ix => ∃ (k : Nat) (x : Int), k ≤ len4 ∧ ix = .int .i64 k ∧ t = .int .i64 x) (fun _ ix => len4 - (intOf ix).toNat)
    case atStart => exact ⟨0, _, Nat.zero_le _, rfl, rfl⟩
    case round =>
      obtain ⟨k, x, hk, rfl, rfl⟩ := hrel
      by_cases hlt : k < len4
      · obtain ⟨b, off, y, hA, hb, hx, hc⟩ := S4.out.str hlt
        subst hA
        clear hx
        go_wp2
        go_round
        case rel => exact ⟨k + 1, _, by omega, by go_num, rfl⟩
        case measure => simp [intOf]; omega
      · by_cases hx : x ≤ 1048576
        · go_wp2
          go_ret
          exact ⟨rfl, Below.refl _ _⟩
        · go_wp2
          go_ret
          exact ⟨rfl, Below.refl _ _⟩
set_option maxRecDepth 100000 in
set_option linter.unusedVariables false in
set_option maxHeartbeats 2000000 in
theorem f1 (a0 a1 : Int) (a2 : ByteArray) (a3 : Option Addr) (len3 cap3 : Nat) (a4 : Option Addr) (len4 cap4 : Nat) (z4 : List ByteArray) (w : World) (h2 : a2.size ≤ 1048576) (h3 : len3 ≤ 1048576) (h4 : len4 ≤ 4096) (hk : 5 < a0) (w4 : SlIn w w.heap.size a4 len4 cap4 (z4.map Value.string)) :
    Calls Tryd.prog 3 #[.int .i64 a0, .int .i64 a1, .string a2, .slice a3 len3 cap3, .slice a4 len4 cap4] w fun e w' => e = .returned (.bool true) ∧ Below w.heap.size w w' := by
  have S4 := hide w4
  clear w4
  go_enter Tryd.func3, Tryd.ntmps3
  go_wp2_with fail
  refine (bytes_any a0 a1 a2 a3 len3 cap3 a4 len4 cap4 z4 w (by omega) (by omega) (by omega) S4.out).mono ?_
  rintro e w' ⟨b, rfl, rfl⟩
  cases b with
  | false =>
    go_wp2
    go_ret
    exact ⟨rfl, Below.refl _ _⟩
  | true =>
    go_wp2_with fail
    go_loop [11, 12] (fun t ix => ∃ (k : Nat) (x : Int), k ≤ len4 ∧ ix = .int .i64 k ∧ t = .int .i64 x) (fun _ ix => len4 - (intOf ix).toNat)
    case atStart => exact ⟨0, _, Nat.zero_le _, rfl, rfl⟩
    case round =>
      obtain ⟨k, x, hk, rfl, rfl⟩ := hrel
      by_cases hlt : k < len4
      · obtain ⟨b, off, y, hA, hb, hx, hc⟩ := S4.out.str hlt
        subst hA
        clear hx
        go_wp2
        go_round
        case rel => exact ⟨k + 1, _, by omega, by go_num, rfl⟩
        case measure => simp [intOf]; omega
      · by_cases hx : x ≤ 1048576
        · go_wp2
          go_ret
          exact ⟨rfl, Below.refl _ _⟩
        · go_wp2
          go_ret
          exact ⟨rfl, Below.refl _ _⟩
set_option maxRecDepth 100000 in
set_option linter.unusedVariables false in
set_option maxHeartbeats 2000000 in
theorem f2 (a0 a1 : Int) (a2 : ByteArray) (a3 : Option Addr) (len3 cap3 : Nat) (a4 : Option Addr) (len4 cap4 : Nat) (z4 : List ByteArray) (w : World) (h2 : a2.size ≤ 1048576) (h3 : len3 ≤ 1048576) (h4 : len4 ≤ 4096) (hk0 : 0 ≤ a0) (hk1 : a0 ≤ 5) (hn : a1 < 0) (w4 : SlIn w w.heap.size a4 len4 cap4 (z4.map Value.string)) :
    Calls Tryd.prog 3 #[.int .i64 a0, .int .i64 a1, .string a2, .slice a3 len3 cap3, .slice a4 len4 cap4] w fun e w' => e = .returned (.bool true) ∧ Below w.heap.size w w' := by
  have S4 := hide w4
  clear w4
  go_enter Tryd.func3, Tryd.ntmps3
  go_wp2_with fail
  refine (bytes_any a0 a1 a2 a3 len3 cap3 a4 len4 cap4 z4 w (by omega) (by omega) (by omega) S4.out).mono ?_
  rintro e w' ⟨b, rfl, rfl⟩
  cases b with
  | false =>
    go_wp2
    go_ret
    exact ⟨rfl, Below.refl _ _⟩
  | true =>
    go_wp2_with fail
    go_loop [11, 12] (fun t ix => ∃ (k : Nat) (x : Int), k ≤ len4 ∧ ix = .int .i64 k ∧ t = .int .i64 x) (fun _ ix => len4 - (intOf ix).toNat)
    case atStart => exact ⟨0, _, Nat.zero_le _, rfl, rfl⟩
    case round =>
      obtain ⟨k, x, hk, rfl, rfl⟩ := hrel
      by_cases hlt : k < len4
      · obtain ⟨b, off, y, hA, hb, hx, hc⟩ := S4.out.str hlt
        subst hA
        clear hx
        go_wp2
        go_round
        case rel => exact ⟨k + 1, _, by omega, by go_num, rfl⟩
        case measure => simp [intOf]; omega
      · by_cases hx : x ≤ 1048576
        · go_wp2
          go_ret
          exact ⟨rfl, Below.refl _ _⟩
        · go_wp2
          go_ret
          exact ⟨rfl, Below.refl _ _⟩
set_option maxRecDepth 100000 in
set_option linter.unusedVariables false in
set_option maxHeartbeats 2000000 in
theorem f3 (a0 a1 : Int) (a2 : ByteArray) (a3 : Option Addr) (len3 cap3 : Nat) (a4 : Option Addr) (len4 cap4 : Nat) (z4 : List ByteArray) (w : World) (h2 : a2.size ≤ 1048576) (h3 : len3 ≤ 1048576) (h4 : len4 ≤ 4096) (hk0 : 0 ≤ a0) (hk1 : a0 ≤ 5) (hn : 65536 < a1) (w4 : SlIn w w.heap.size a4 len4 cap4 (z4.map Value.string)) :
    Calls Tryd.prog 3 #[.int .i64 a0, .int .i64 a1, .string a2, .slice a3 len3 cap3, .slice a4 len4 cap4] w fun e w' => e = .returned (.bool true) ∧ Below w.heap.size w w' := by
  have S4 := hide w4
  clear w4
  go_enter Tryd.func3, Tryd.ntmps3
  go_wp2_with fail
  refine (bytes_any a0 a1 a2 a3 len3 cap3 a4 len4 cap4 z4 w (by omega) (by omega) (by omega) S4.out).mono ?_
  rintro e w' ⟨b, rfl, rfl⟩
  cases b with
  | false =>
    go_wp2
    go_ret
    exact ⟨rfl, Below.refl _ _⟩
  | true =>
    go_wp2_with fail
    go_loop [11, 12] (fun t ix => ∃ (k : Nat) (x : Int), k ≤ len4 ∧ ix = .int .i64 k ∧ t = .int .i64 x) (fun _ ix => len4 - (intOf ix).toNat)
    case atStart => exact ⟨0, _, Nat.zero_le _, rfl, rfl⟩
    case round =>
      obtain ⟨k, x, hk, rfl, rfl⟩ := hrel
      by_cases hlt : k < len4
      · obtain ⟨b, off, y, hA, hb, hx, hc⟩ := S4.out.str hlt
        subst hA
        clear hx
        go_wp2
        go_round
        case rel => exact ⟨k + 1, _, by omega, by go_num, rfl⟩
        case measure => simp [intOf]; omega
      · by_cases hx : x ≤ 1048576
        · go_wp2
          go_ret
          exact ⟨rfl, Below.refl _ _⟩
        · go_wp2
          go_ret
          exact ⟨rfl, Below.refl _ _⟩
set_option maxRecDepth 100000 in
set_option linter.unusedVariables false in
set_option maxHeartbeats 2000000 in
theorem walk (a0 : Int) (a1 : Int) (a2 : ByteArray) (a3 : Option Addr) (len3 cap3 : Nat) (z3 : List UInt8) (a4 : Option Addr) (len4 cap4 : Nat) (z4 : List ByteArray) (w : World) (w0 : (Lit.int .i64 a0).wf = true) (w1 : (Lit.int .i64 a1).wf = true) (w2 : a2.size ≤ maxLen) (w3 : SlIn w w.heap.size a3 len3 cap3 (z3.map bt)) (w4 : SlIn w w.heap.size a4 len4 cap4 (z4.map Value.string)) (wf4 : ∀ s ∈ z4, s.size ≤ maxLen) (hL : laidMetH Tryd.prog Rows.fnLenCountsElementsRow.laid w) :
    Calls Tryd.prog 3 #[.int .i64 a0, .int .i64 a1, .string a2, .slice a3 len3 cap3, .slice a4 len4 cap4] w fun e w' => e = .returned (.bool true) ∧ Below w.heap.size w w' := by
  have hb0 := bounds_i64 w0
  have hb1 := bounds_i64 w1
  have t3 := w3.top
  have l3 := w3.le
  have t4 := w4.top
  have l4 := w4.le
  unfold maxLen at w2 t3 t4
  by_cases h2 : a2.size ≤ 1048576
  · by_cases h3 : len3 ≤ 1048576
    · by_cases h4 : len4 ≤ 4096
      · by_cases hk0 : a0 < 0
        · exact f0 a0 a1 a2 a3 len3 cap3 a4 len4 cap4 z4 w h2 h3 h4 hk0 w4
        by_cases hk5 : 5 < a0
        · exact f1 a0 a1 a2 a3 len3 cap3 a4 len4 cap4 z4 w h2 h3 h4 hk5 w4
        by_cases n0 : a1 < 0
        · exact f2 a0 a1 a2 a3 len3 cap3 a4 len4 cap4 z4 w h2 h3 h4 (by omega) (by omega) n0 w4
        by_cases n1 : 65536 < a1
        · exact f3 a0 a1 a2 a3 len3 cap3 a4 len4 cap4 z4 w h2 h3 h4 (by omega) (by omega) n1 w4
        by_cases e0 : a0 = 0
        · subst e0; exact k0 a1 a2 a3 len3 cap3 z3 a4 len4 cap4 z4 w h2 h3 h4 (by omega) (by omega) w3 w4 wf4
        by_cases e1 : a0 = 1
        · subst e1; exact k1 a1 a2 a3 len3 cap3 z3 a4 len4 cap4 z4 w h2 h3 h4 (by omega) (by omega) w3 w4 wf4
        by_cases e2 : a0 = 2
        · subst e2; exact k2 a1 a2 a3 len3 cap3 z3 a4 len4 cap4 z4 w h2 h3 h4 (by omega) (by omega) w3 w4 wf4
        by_cases e3 : a0 = 3
        · subst e3; exact k3 a1 a2 a3 len3 cap3 z3 a4 len4 cap4 z4 w h2 h3 h4 (by omega) (by omega) w3 w4 wf4
        by_cases e4 : a0 = 4
        · subst e4; exact k4 a1 a2 a3 len3 cap3 z3 a4 len4 cap4 z4 w h2 h3 h4 (by omega) (by omega) w3 w4 wf4
        by_cases e5 : a0 = 5
        · subst e5; exact k5 a1 a2 a3 len3 cap3 z3 a4 len4 cap4 z4 w h2 h3 h4 (by omega) (by omega) w3 w4 wf4
        omega
      · exact e4 a0 a1 a2 a3 len3 cap3 a4 len4 cap4 z4 w (by omega) (by omega) (by omega) h2 h3 (by omega) w4
    · exact e3 a0 a1 a2 a3 len3 cap3 a4 len4 cap4 z4 w (by omega) (by omega) (by omega) h2 (by omega) w4
  · exact e2 a0 a1 a2 a3 len3 cap3 a4 len4 cap4 z4 w (by omega) (by omega) (by omega) (by omega) w4
end Go.Proofs.YtdcafjjglgceaacDoor.fnLenCountsElements
