/- The law's road from the count to the end, for a range of two and of three arguments, upwards and downwards. Conditions: those of the law on that road. -/
import Derived.Test.YtdcafjjglgceaaaDoorRange
namespace Go.Proofs.YtdcafjjglgceaaaDoor
open Go.RowKit
theorem taA (v : Value) (w : World) : (Instr.typeAssert (.iface 35 v) 23 35 true).run Tryd.prog w = .ok (.tuple #[v, .bool true]) w := by kernel_rfl
attribute [local go_sem] taI taA

theorem args3 (w : World) (u v t : Value) : SlIn (w.alloc (.cells #[u, v, t] 23)) (w.alloc (.cells #[u, v, t] 23)).heap.size (some ⟨w.heap.size, 0, none⟩) 3 3 [u, v, t] := by
  refine ⟨fun e => (by cases e), Nat.le_refl _, by unfold maxLen; omega, rfl, fun j x hx => ⟨w.heap.size, 0, rfl, by simp, ?_⟩⟩
  have h := Blk.new w #[u, v, t] 23
  match j, hx with
  | 0, hx => simp at hx; subst hx; exact h.at rfl
  | 1, hx => simp at hx; subst hx; exact h.at rfl
  | 2, hx => simp at hx; subst hx; exact h.at rfl
theorem args2 (w : World) (u v : Value) : SlIn (w.alloc (.cells #[u, v] 23)) (w.alloc (.cells #[u, v] 23)).heap.size (some ⟨w.heap.size, 0, none⟩) 2 2 [u, v] := by
  refine ⟨fun e => (by cases e), Nat.le_refl _, by unfold maxLen; omega, rfl, fun j x hx => ⟨w.heap.size, 0, rfl, by simp, ?_⟩⟩
  have h := Blk.new w #[u, v] 23
  match j, hx with
  | 0, hx => simp at hx; subst hx; exact h.at rfl
  | 1, hx => simp at hx; subst hx; exact h.at rfl

/-- The memory with three numbers and the list of arguments. -/
def M3 (w : World) (s p t : Int) : World :=
  (((w.alloc (.cells #[.int .i64 s] 32)).alloc (.cells #[.int .i64 p] 32)).alloc (.cells #[.int .i64 t] 32)).alloc (.cells #[.iface 28 (.pointer (some ⟨w.heap.size, 0, none⟩)), .iface 28 (.pointer (some ⟨w.heap.size + 1, 0, none⟩)), .iface 28 (.pointer (some ⟨w.heap.size + 1 + 1, 0, none⟩))] 23)
/-- The memory with two. -/
def M2 (w : World) (s p : Int) : World :=
  ((w.alloc (.cells #[.int .i64 s] 32)).alloc (.cells #[.int .i64 p] 32)).alloc (.cells #[.iface 28 (.pointer (some ⟨w.heap.size, 0, none⟩)), .iface 28 (.pointer (some ⟨w.heap.size + 1, 0, none⟩))] 23)

theorem blk2 (w : World) (s p : Int) : Blk ((w.alloc (.cells #[.int .i64 s] 32)).alloc (.cells #[.int .i64 p] 32)) (w.heap.size + 1) #[.int .i64 p] 32 := by
  have h := Blk.new (w.alloc (.cells #[.int .i64 s] 32)) #[.int .i64 p] 32
  simpa using h

theorem call3 (s p t : Int) (n : Nat) (zs : List Int) (w : World) (hB : ∀ W, Calls Tryd.prog 9 #[.int .i64 s, .int .i64 p, .int .i64 t] W (RangeArr n zs W)) (ht : 0 < t) :
    Calls Tryd.prog 8 #[.slice (some ⟨w.heap.size + 1 + 1 + 1, 0, none⟩) 3 3] (M3 w s p t) (fun e w' => RangeRes n zs (M3 w s p t) e w' ∧ Below w.heap.size w w') := by
  have b1 : Blk (w.alloc (.cells #[.int .i64 s] 32)) w.heap.size #[.int .i64 s] 32 := Blk.new w _ _
  have b2 := blk2 w s p
  have b3 : Blk (((w.alloc (.cells #[.int .i64 s] 32)).alloc (.cells #[.int .i64 p] 32)).alloc (.cells #[.int .i64 t] 32)) (w.heap.size + 1 + 1) #[.int .i64 t] 32 := by
    have h := Blk.new ((w.alloc (.cells #[.int .i64 s] 32)).alloc (.cells #[.int .i64 p] 32)) #[.int .i64 t] 32
    simpa using h
  have ha := args3 (((w.alloc (.cells #[.int .i64 s] 32)).alloc (.cells #[.int .i64 p] 32)).alloc (.cells #[.int .i64 t] 32)) (.iface 28 (.pointer (some ⟨w.heap.size, 0, none⟩))) (.iface 28 (.pointer (some ⟨w.heap.size + 1, 0, none⟩))) (.iface 28 (.pointer (some ⟨w.heap.size + 1 + 1, 0, none⟩)))
  rw [show (((w.alloc (.cells #[.int .i64 s] 32)).alloc (.cells #[.int .i64 p] 32)).alloc (.cells #[.int .i64 t] 32)).heap.size = w.heap.size + 1 + 1 + 1 by simp] at ha
  refine (range3 s p t n zs w.heap.size (w.heap.size + 1) (w.heap.size + 1 + 1) 3 _ (M3 w s p t) hB ht ha (((b1.alloc _).alloc _).alloc _) ((b2.alloc _).alloc _) (b3.alloc _)).mono ?_
  intro e w' h
  refine ⟨h, ?_⟩
  obtain ⟨_, _, _, _, _, _, _, _, hl⟩ := h
  have hz : Below w.heap.size w (M3 w s p t) := (((((Below.refl w.heap.size w).alloc (Nat.le_refl _) _).alloc (by simp) _).alloc (by simp; omega) _).alloc (by simp; omega) _)
  exact hz.trans (hl.mono hz.size)

theorem call2 (s p : Int) (n : Nat) (zs : List Int) (w : World) (hB : ∀ W, Calls Tryd.prog 9 #[.int .i64 s, .int .i64 p, .int .i64 1] W (RangeArr n zs W)) :
    Calls Tryd.prog 8 #[.slice (some ⟨w.heap.size + 1 + 1, 0, none⟩) 2 2] (M2 w s p) (fun e w' => RangeRes n zs (M2 w s p) e w' ∧ Below w.heap.size w w') := by
  have b1 : Blk (w.alloc (.cells #[.int .i64 s] 32)) w.heap.size #[.int .i64 s] 32 := Blk.new w _ _
  have b2 := blk2 w s p
  have ha := args2 ((w.alloc (.cells #[.int .i64 s] 32)).alloc (.cells #[.int .i64 p] 32)) (.iface 28 (.pointer (some ⟨w.heap.size, 0, none⟩))) (.iface 28 (.pointer (some ⟨w.heap.size + 1, 0, none⟩)))
  rw [show ((w.alloc (.cells #[.int .i64 s] 32)).alloc (.cells #[.int .i64 p] 32)).heap.size = w.heap.size + 1 + 1 by simp] at ha
  refine (range2 s p n zs w.heap.size (w.heap.size + 1) 2 _ (M2 w s p) hB ha ((b1.alloc _).alloc _) (b2.alloc _)).mono ?_
  intro e w' h
  refine ⟨h, ?_⟩
  obtain ⟨_, _, _, _, _, _, _, _, hl⟩ := h
  have hz : Below w.heap.size w (M2 w s p) := ((((Below.refl w.heap.size w).alloc (Nat.le_refl _) _).alloc (by simp) _).alloc (by simp; omega) _)
  exact hz.trans (hl.mono hz.size)

theorem wrap64_add {s y : Int} (h : -9223372036854775808 ≤ s + y ∧ s + y ≤ 9223372036854775807) : wrap64 (s + wrap64 y) = s + y := by
  unfold wrap64
  omega
theorem wrap64_sub {s k t : Int} (h : -9223372036854775808 ≤ s + k * (-t) ∧ s + k * (-t) ≤ 9223372036854775807) : wrap64 (s - wrap64 (k * t)) = s + k * (-t) := by
  rw [Int.mul_neg] at h ⊢
  generalize k * t = y at *
  unfold wrap64
  omega

set_option maxRecDepth 100000 in
set_option linter.unusedVariables false in
set_option maxHeartbeats 4000000 in
theorem core_up_3a (s p t : Int) (n : Nat) (D q : Int) (w : World) (hs0 : -9223372036854775808 ≤ s) (hs1 : s ≤ 9223372036854775807) (hp0 : -9223372036854775808 ≤ p) (hp1 : p ≤ 9223372036854775807) (ht : 0 < t) (ht1 : t ≤ 9223372036854775807) (hup : s ≤ p) (hm : p ≤ 9223372036854775807 - t)
    (hn : n ≤ 65536) (hB : ∀ W, Calls Tryd.prog 9 #[.int .i64 s, .int .i64 p, .int .i64 t] W (RangeArr n (prog s t n) W)) (hD : IntKind.u64.wrap (IntKind.u64.wrap p - IntKind.u64.wrap s) = D) (hq : IntKind.u64.wrap (D.tdiv t) = q) (hc1 : (D.tmod t != 0) = true) (hc2 : IntKind.u64.wrap (q + 1) = (n : Int))
    (hv : ∀ k : Nat, k < n → -9223372036854775808 ≤ s + (k : Int) * t ∧ s + (k : Int) * t ≤ 9223372036854775807) :
    Calls Tryd.prog 3 #[.int .i64 s, .int .i64 p, .int .i64 t, .bool true] w fun e w' => e = .returned (.bool true) ∧ Below w.heap.size w w' := by
  have HV := hide hv
  have HB := hide hB
  clear hB hv
  go_enter Tryd.func3, Tryd.ntmps3
  go_wp2_with (go_at_call 4; go_in)
  refine (call3 s p t n (prog s t n) w HB.out ht).mono ?_
  rintro e w2 ⟨⟨ab, Ar, cr, vs, rfl, hb, hs, ho, hl⟩, hbw⟩
  have fa := hb.at (i := 0) (v := .slice Ar n cr) rfl
  have KS := hide hs
  have KO := hide ho
  have BB := hide hbw
  have hab := hb.lt
  clear hb hs ho hl hbw
  go_wp2_with (first | (go_at_call 6; go_in))
  clear hD hq hc1 hc2
  go_loop [18] (fun ix => ∃ k : Nat, k ≤ n ∧ ix = .int .i64 k) (fun ix => n - (intOf ix).toNat)
  case atStart => exact ⟨0, Nat.zero_le _, rfl⟩
  case round =>
    obtain ⟨k, hk, rfl⟩ := hrel
    by_cases hlt : k < n
    · obtain ⟨b, off, u, hA, hb, hx, hcu⟩ := KS.out.cell hlt
      subst hA
      have hx2 := prog_get s t n k hlt
      obtain ⟨bi, rfl, _, hblk⟩ := KO.out.get k u _ hx hx2
      have hci := hblk.at (i := 0) (v := .int .i64 (s + (k : Int) * t)) rfl
      have HW := hide (HV.out k hlt)
      clear hx hx2 hblk
      have e1 : (s + (k : Int) * t != wrap64 (s + wrap64 ((k : Int) * t))) = false := by rw [wrap64_add HW.out]; simp
      go_wp2
      go_round
      case rel => exact ⟨k + 1, by omega, by go_num⟩
      case measure => simp [intOf]; omega
    · go_wp2
      go_ret
      exact ⟨rfl, BB.out⟩
set_option maxRecDepth 100000 in
set_option linter.unusedVariables false in
set_option maxHeartbeats 4000000 in
theorem core_up_3b (s p t : Int) (n : Nat) (D q : Int) (w : World) (hs0 : -9223372036854775808 ≤ s) (hs1 : s ≤ 9223372036854775807) (hp0 : -9223372036854775808 ≤ p) (hp1 : p ≤ 9223372036854775807) (ht : 0 < t) (ht1 : t ≤ 9223372036854775807) (hup : s ≤ p) (hm : p ≤ 9223372036854775807 - t)
    (hn : n ≤ 65536) (hB : ∀ W, Calls Tryd.prog 9 #[.int .i64 s, .int .i64 p, .int .i64 t] W (RangeArr n (prog s t n) W)) (hD : IntKind.u64.wrap (IntKind.u64.wrap p - IntKind.u64.wrap s) = D) (hq : IntKind.u64.wrap (D.tdiv t) = (n : Int)) (hc1 : (D.tmod t != 0) = false)
    (hv : ∀ k : Nat, k < n → -9223372036854775808 ≤ s + (k : Int) * t ∧ s + (k : Int) * t ≤ 9223372036854775807) :
    Calls Tryd.prog 3 #[.int .i64 s, .int .i64 p, .int .i64 t, .bool true] w fun e w' => e = .returned (.bool true) ∧ Below w.heap.size w w' := by
  have HV := hide hv
  have HB := hide hB
  clear hB hv
  go_enter Tryd.func3, Tryd.ntmps3
  go_wp2_with (go_at_call 4; go_in)
  refine (call3 s p t n (prog s t n) w HB.out ht).mono ?_
  rintro e w2 ⟨⟨ab, Ar, cr, vs, rfl, hb, hs, ho, hl⟩, hbw⟩
  have fa := hb.at (i := 0) (v := .slice Ar n cr) rfl
  have KS := hide hs
  have KO := hide ho
  have BB := hide hbw
  have hab := hb.lt
  clear hb hs ho hl hbw
  go_wp2_with (first | (go_at_call 6; go_in))
  clear hD hq hc1
  go_loop [18] (fun ix => ∃ k : Nat, k ≤ n ∧ ix = .int .i64 k) (fun ix => n - (intOf ix).toNat)
  case atStart => exact ⟨0, Nat.zero_le _, rfl⟩
  case round =>
    obtain ⟨k, hk, rfl⟩ := hrel
    by_cases hlt : k < n
    · obtain ⟨b, off, u, hA, hb, hx, hcu⟩ := KS.out.cell hlt
      subst hA
      have hx2 := prog_get s t n k hlt
      obtain ⟨bi, rfl, _, hblk⟩ := KO.out.get k u _ hx hx2
      have hci := hblk.at (i := 0) (v := .int .i64 (s + (k : Int) * t)) rfl
      have HW := hide (HV.out k hlt)
      clear hx hx2 hblk
      have e1 : (s + (k : Int) * t != wrap64 (s + wrap64 ((k : Int) * t))) = false := by rw [wrap64_add HW.out]; simp
      go_wp2
      go_round
      case rel => exact ⟨k + 1, by omega, by go_num⟩
      case measure => simp [intOf]; omega
    · go_wp2
      go_ret
      exact ⟨rfl, BB.out⟩

set_option maxRecDepth 100000 in
set_option linter.unusedVariables false in
set_option maxHeartbeats 4000000 in
theorem core_up_2b (s p a2 : Int) (n : Nat) (D q : Int) (w : World) (hs0 : -9223372036854775808 ≤ s) (hs1 : s ≤ 9223372036854775807) (hp0 : -9223372036854775808 ≤ p) (hp1 : p ≤ 9223372036854775807) (hup : s ≤ p) (hm : p ≤ 9223372036854775807 - 1)
    (hn : n ≤ 65536) (hB : ∀ W, Calls Tryd.prog 9 #[.int .i64 s, .int .i64 p, .int .i64 1] W (RangeArr n (prog s 1 n) W)) (hD : IntKind.u64.wrap (IntKind.u64.wrap p - IntKind.u64.wrap s) = D) (hq : IntKind.u64.wrap D = (n : Int))
    (hv : ∀ k : Nat, k < n → -9223372036854775808 ≤ s + (k : Int) * 1 ∧ s + (k : Int) * 1 ≤ 9223372036854775807) :
    Calls Tryd.prog 3 #[.int .i64 s, .int .i64 p, .int .i64 a2, .bool false] w fun e w' => e = .returned (.bool true) ∧ Below w.heap.size w w' := by
  have HV := hide hv
  have HB := hide hB
  clear hB hv
  go_enter Tryd.func3, Tryd.ntmps3
  go_wp2_with (go_at_call 4; go_in)
  refine (call2 s p n (prog s 1 n) w HB.out).mono ?_
  rintro e w2 ⟨⟨ab, Ar, cr, vs, rfl, hb, hs, ho, hl⟩, hbw⟩
  have fa := hb.at (i := 0) (v := .slice Ar n cr) rfl
  have KS := hide hs
  have KO := hide ho
  have BB := hide hbw
  have hab := hb.lt
  clear hb hs ho hl hbw
  go_wp2_with (first | (go_at_call 6; go_in))
  clear hD hq
  go_loop [18] (fun ix => ∃ k : Nat, k ≤ n ∧ ix = .int .i64 k) (fun ix => n - (intOf ix).toNat)
  case atStart => exact ⟨0, Nat.zero_le _, rfl⟩
  case round =>
    obtain ⟨k, hk, rfl⟩ := hrel
    by_cases hlt : k < n
    · obtain ⟨b, off, u, hA, hb, hx, hcu⟩ := KS.out.cell hlt
      subst hA
      have hx2 := prog_get s 1 n k hlt
      obtain ⟨bi, rfl, _, hblk⟩ := KO.out.get k u _ hx hx2
      have hci := hblk.at (i := 0) (v := .int .i64 (s + (k : Int) * 1)) rfl
      have HW := hide (HV.out k hlt)
      clear hx hx2 hblk
      rw [Int.mul_one] at hci
      have hw1 : s + (k : Int) ≤ 9223372036854775807 := by have := HW.out; omega
      have hw2 : -9223372036854775808 ≤ s + (k : Int) := by have := HW.out; omega
      have e1 : (s + (k : Int) != s + (k : Int)) = false := by simp
      go_wp2
      go_round
      case rel => exact ⟨k + 1, by omega, by go_num⟩
      case measure => simp [intOf]; omega
    · go_wp2
      go_ret
      exact ⟨rfl, BB.out⟩

set_option maxRecDepth 100000 in
set_option linter.unusedVariables false in
set_option maxHeartbeats 4000000 in
theorem core_dn_3a (s p t : Int) (n : Nat) (D q : Int) (w : World) (hs0 : -9223372036854775808 ≤ s) (hs1 : s ≤ 9223372036854775807) (hp0 : -9223372036854775808 ≤ p) (hp1 : p ≤ 9223372036854775807) (ht : 0 < t) (ht1 : t ≤ 9223372036854775807) (hup : p < s) (hm : -9223372036854775808 + t ≤ p)
    (hn : n ≤ 65536) (hB : ∀ W, Calls Tryd.prog 9 #[.int .i64 s, .int .i64 p, .int .i64 t] W (RangeArr n (prog s (-t) n) W)) (hD : IntKind.u64.wrap (IntKind.u64.wrap s - IntKind.u64.wrap p) = D) (hq : IntKind.u64.wrap (D.tdiv t) = q) (hc1 : (D.tmod t != 0) = true) (hc2 : IntKind.u64.wrap (q + 1) = (n : Int))
    (hv : ∀ k : Nat, k < n → -9223372036854775808 ≤ s + (k : Int) * (-t) ∧ s + (k : Int) * (-t) ≤ 9223372036854775807) :
    Calls Tryd.prog 3 #[.int .i64 s, .int .i64 p, .int .i64 t, .bool true] w fun e w' => e = .returned (.bool true) ∧ Below w.heap.size w w' := by
  have HV := hide hv
  have HB := hide hB
  clear hB hv
  go_enter Tryd.func3, Tryd.ntmps3
  go_wp2_with (go_at_call 4; go_in)
  refine (call3 s p t n (prog s (-t) n) w HB.out ht).mono ?_
  rintro e w2 ⟨⟨ab, Ar, cr, vs, rfl, hb, hs, ho, hl⟩, hbw⟩
  have fa := hb.at (i := 0) (v := .slice Ar n cr) rfl
  have KS := hide hs
  have KO := hide ho
  have BB := hide hbw
  have hab := hb.lt
  clear hb hs ho hl hbw
  go_wp2_with (first | (go_at_call 6; go_in))
  clear hD hq hc1 hc2
  go_loop [18] (fun ix => ∃ k : Nat, k ≤ n ∧ ix = .int .i64 k) (fun ix => n - (intOf ix).toNat)
  case atStart => exact ⟨0, Nat.zero_le _, rfl⟩
  case round =>
    obtain ⟨k, hk, rfl⟩ := hrel
    by_cases hlt : k < n
    · obtain ⟨b, off, u, hA, hb, hx, hcu⟩ := KS.out.cell hlt
      subst hA
      have hx2 := prog_get s (-t) n k hlt
      obtain ⟨bi, rfl, _, hblk⟩ := KO.out.get k u _ hx hx2
      have hci := hblk.at (i := 0) (v := .int .i64 (s + (k : Int) * (-t))) rfl
      have HW := hide (HV.out k hlt)
      clear hx hx2 hblk
      have e1 : (s + (k : Int) * (-t) != wrap64 (s - wrap64 ((k : Int) * t))) = false := by rw [wrap64_sub HW.out]; simp
      have e2 : (s + -((k : Int) * t) != wrap64 (s - wrap64 ((k : Int) * t))) = false := by rw [← Int.mul_neg]; exact e1
      go_wp2
      go_round
      case rel => exact ⟨k + 1, by omega, by go_num⟩
      case measure => simp [intOf]; omega
    · go_wp2
      go_ret
      exact ⟨rfl, BB.out⟩
set_option maxRecDepth 100000 in
set_option linter.unusedVariables false in
set_option maxHeartbeats 4000000 in
theorem core_dn_3b (s p t : Int) (n : Nat) (D q : Int) (w : World) (hs0 : -9223372036854775808 ≤ s) (hs1 : s ≤ 9223372036854775807) (hp0 : -9223372036854775808 ≤ p) (hp1 : p ≤ 9223372036854775807) (ht : 0 < t) (ht1 : t ≤ 9223372036854775807) (hup : p < s) (hm : -9223372036854775808 + t ≤ p)
    (hn : n ≤ 65536) (hB : ∀ W, Calls Tryd.prog 9 #[.int .i64 s, .int .i64 p, .int .i64 t] W (RangeArr n (prog s (-t) n) W)) (hD : IntKind.u64.wrap (IntKind.u64.wrap s - IntKind.u64.wrap p) = D) (hq : IntKind.u64.wrap (D.tdiv t) = (n : Int)) (hc1 : (D.tmod t != 0) = false)
    (hv : ∀ k : Nat, k < n → -9223372036854775808 ≤ s + (k : Int) * (-t) ∧ s + (k : Int) * (-t) ≤ 9223372036854775807) :
    Calls Tryd.prog 3 #[.int .i64 s, .int .i64 p, .int .i64 t, .bool true] w fun e w' => e = .returned (.bool true) ∧ Below w.heap.size w w' := by
  have HV := hide hv
  have HB := hide hB
  clear hB hv
  go_enter Tryd.func3, Tryd.ntmps3
  go_wp2_with (go_at_call 4; go_in)
  refine (call3 s p t n (prog s (-t) n) w HB.out ht).mono ?_
  rintro e w2 ⟨⟨ab, Ar, cr, vs, rfl, hb, hs, ho, hl⟩, hbw⟩
  have fa := hb.at (i := 0) (v := .slice Ar n cr) rfl
  have KS := hide hs
  have KO := hide ho
  have BB := hide hbw
  have hab := hb.lt
  clear hb hs ho hl hbw
  go_wp2_with (first | (go_at_call 6; go_in))
  clear hD hq hc1
  go_loop [18] (fun ix => ∃ k : Nat, k ≤ n ∧ ix = .int .i64 k) (fun ix => n - (intOf ix).toNat)
  case atStart => exact ⟨0, Nat.zero_le _, rfl⟩
  case round =>
    obtain ⟨k, hk, rfl⟩ := hrel
    by_cases hlt : k < n
    · obtain ⟨b, off, u, hA, hb, hx, hcu⟩ := KS.out.cell hlt
      subst hA
      have hx2 := prog_get s (-t) n k hlt
      obtain ⟨bi, rfl, _, hblk⟩ := KO.out.get k u _ hx hx2
      have hci := hblk.at (i := 0) (v := .int .i64 (s + (k : Int) * (-t))) rfl
      have HW := hide (HV.out k hlt)
      clear hx hx2 hblk
      have e1 : (s + (k : Int) * (-t) != wrap64 (s - wrap64 ((k : Int) * t))) = false := by rw [wrap64_sub HW.out]; simp
      have e2 : (s + -((k : Int) * t) != wrap64 (s - wrap64 ((k : Int) * t))) = false := by rw [← Int.mul_neg]; exact e1
      go_wp2
      go_round
      case rel => exact ⟨k + 1, by omega, by go_num⟩
      case measure => simp [intOf]; omega
    · go_wp2
      go_ret
      exact ⟨rfl, BB.out⟩

set_option maxRecDepth 100000 in
set_option linter.unusedVariables false in
set_option maxHeartbeats 4000000 in
theorem core_dn_2b (s p a2 : Int) (n : Nat) (D q : Int) (w : World) (hs0 : -9223372036854775808 ≤ s) (hs1 : s ≤ 9223372036854775807) (hp0 : -9223372036854775808 ≤ p) (hp1 : p ≤ 9223372036854775807) (hup : p < s) (hm : -9223372036854775808 + 1 ≤ p)
    (hn : n ≤ 65536) (hB : ∀ W, Calls Tryd.prog 9 #[.int .i64 s, .int .i64 p, .int .i64 1] W (RangeArr n (prog s (-1) n) W)) (hD : IntKind.u64.wrap (IntKind.u64.wrap s - IntKind.u64.wrap p) = D) (hq : IntKind.u64.wrap D = (n : Int))
    (hv : ∀ k : Nat, k < n → -9223372036854775808 ≤ s + (k : Int) * (-1) ∧ s + (k : Int) * (-1) ≤ 9223372036854775807) :
    Calls Tryd.prog 3 #[.int .i64 s, .int .i64 p, .int .i64 a2, .bool false] w fun e w' => e = .returned (.bool true) ∧ Below w.heap.size w w' := by
  have HV := hide hv
  have HB := hide hB
  clear hB hv
  go_enter Tryd.func3, Tryd.ntmps3
  go_wp2_with (go_at_call 4; go_in)
  refine (call2 s p n (prog s (-1) n) w HB.out).mono ?_
  rintro e w2 ⟨⟨ab, Ar, cr, vs, rfl, hb, hs, ho, hl⟩, hbw⟩
  have fa := hb.at (i := 0) (v := .slice Ar n cr) rfl
  have KS := hide hs
  have KO := hide ho
  have BB := hide hbw
  have hab := hb.lt
  clear hb hs ho hl hbw
  go_wp2_with (first | (go_at_call 6; go_in))
  clear hD hq
  go_loop [18] (fun ix => ∃ k : Nat, k ≤ n ∧ ix = .int .i64 k) (fun ix => n - (intOf ix).toNat)
  case atStart => exact ⟨0, Nat.zero_le _, rfl⟩
  case round =>
    obtain ⟨k, hk, rfl⟩ := hrel
    by_cases hlt : k < n
    · obtain ⟨b, off, u, hA, hb, hx, hcu⟩ := KS.out.cell hlt
      subst hA
      have hx2 := prog_get s (-1) n k hlt
      obtain ⟨bi, rfl, _, hblk⟩ := KO.out.get k u _ hx hx2
      have hci := hblk.at (i := 0) (v := .int .i64 (s + (k : Int) * (-1))) rfl
      have HW := hide (HV.out k hlt)
      clear hx hx2 hblk
      rw [show s + (k : Int) * (-1) = s - (k : Int) by omega] at hci
      have hw1 : s - (k : Int) ≤ 9223372036854775807 := by have := HW.out; omega
      have hw2 : -9223372036854775808 ≤ s - (k : Int) := by have := HW.out; omega
      have e1 : (s - (k : Int) != s - (k : Int)) = false := by simp
      go_wp2
      go_round
      case rel => exact ⟨k + 1, by omega, by go_num⟩
      case measure => simp [intOf]; omega
    · go_wp2
      go_ret
      exact ⟨rfl, BB.out⟩
end Go.Proofs.YtdcafjjglgceaaaDoor
