/- The law's decoder by a contract: at a quoted text of the bytes l it hands back a new row that holds l, and true; nothing that was there has turned. Condition: texts of at most 2^40 bytes. -/
import Derived.Test.YtibenbbahaickaaDoorUnq1
import Derived.Test.YtibenbbahaickaaDoorText
import Derived.OwnWalk
import Derived.BigGuardPart
import Derived.LoopN
namespace Go.Proofs.YtibenbbahaickaaDoor
open Go.RowKit

theorem map_one (l : List UInt8) (c : UInt8) (x : Nat) (h : x = c.toNat) : l.map bt ++ [.int .u8 (x : Int)] = (l ++ [c]).map bt := by subst h; simp
theorem u8_back (x : UInt8) : UInt8.ofNat x.toNat = x := by simp

/-- What a round has: the piece at place i, what is behind it, and the bytes. -/
theorem piece {S : ByteArray} {i : Nat} {rest : List Int} {l : List UInt8} (h : Segs rest l) (ht : TextAt S i rest) (h0 : rest ≠ []) :
    ∃ t l1 rest' l2, Seg t l1 ∧ TextAt S i t ∧ Segs rest' l2 ∧ TextAt S (i + t.length) rest' ∧ rest.length = t.length + rest'.length ∧ l = l1 ++ l2 := by
  cases h with
  | nil => exact absurd rfl h0
  | cons h r => exact ⟨_, _, _, _, h, ht.left, r, ht.right, by simp, rfl⟩

/-- The three escapes with digits are one: a letter, so many digits, the number. -/
theorem hex_two (c : UInt8) : ([92, 120, Lib.hexDigit (c.toNat / 16), Lib.hexDigit (c.toNat % 16)] : List Int) = 92 :: 120 :: Lib.hexDigits c.toNat 2 := by
  have := c.toNat_lt
  simp only [Lib.hexDigits, Nat.pow_zero, Nat.div_one, Nat.pow_one]
  rw [Nat.mod_eq_of_lt (show c.toNat / 16 < 16 by omega)]
theorem dig_at {S : ByteArray} {i : Nat} {E : Int} {r n : Nat} (h : TextAt S i (92 :: E :: Lib.hexDigits r n)) (j : Nat) (hj : j < n) :
    ∃ (x : Nat), x = hexN (r / 16 ^ (n - 1 - j) % 16) ∧ ∃ h : i + 2 + j < S.size, (S[i + 2 + j]'h).toNat = x := by
  refine ⟨_, rfl, ?_⟩
  have hx : (92 :: E :: Lib.hexDigits r n)[2 + j]? = some ((hexN (r / 16 ^ (n - 1 - j) % 16) : Nat) : Int) := by
    rw [show 2 + j = j + 1 + 1 by omega, List.getElem?_cons_succ, List.getElem?_cons_succ, hexDigits_get r n j hj, hexN_eq]
  obtain ⟨h1, h2⟩ := h.get (2 + j) _ hx
  have key : ∀ k (hk : k < S.size), k = i + (2 + j) → (S[k]'hk).toNat = hexN (r / 16 ^ (n - 1 - j) % 16) := by
    rintro k hk rfl
    exact h2
  exact ⟨by omega, key _ _ (by omega)⟩

theorem Segs.nil_inv {l : List UInt8} (h : Segs [] l) : l = [] := List.eq_nil_of_length_eq_zero (by have := h.len; simp only [List.length_nil] at this; omega)
theorem Seg.pos {t : List Int} {l : List UInt8} (h : Seg t l) : 1 ≤ t.length := by cases h <;> simp
/-- A rune that stands as digits: bundled, so that no tactic looks into its bounds. -/
structure OkU (n r : Nat) : Prop where
  lo : 128 ≤ r
  hi : r < 16 ^ n
  top : r ≤ 1114111
  sur : ¬ (55296 ≤ r ∧ r ≤ 57343)
  valid : Lib.validRune (r : Int) = true
theorem val_bd {r n j : Nat} (hn : n ≤ 8) (hj : j < n) : val r n j ≤ 268435455 := by
  have h1 := val_lt r n j
  have h2 : 16 ^ j ≤ 16 ^ 7 := Nat.pow_le_pow_right (by omega) (by omega)
  omega

set_option maxHeartbeats 8000000 in
set_option maxRecDepth 100000 in
theorem unq_any (S : ByteArray) (l : List UInt8) (hq : Quoted S l) (hS : S.size ≤ 1099511627776) (w : World) :
    Calls Tryd.prog 6 #[.string S] w fun e w' => ∃ v, e = .returned (.tuple #[v, .bool true]) ∧ Lib.OwnBuf w.heap.size 5 v l.length (l.map bt) w w' := by
  obtain ⟨i0, hi, hz0, hz1, hz2⟩ := info_parts info_byte
  obtain ⟨t, hseg, hsz, htext⟩ := hq.size
  obtain ⟨f0, f1⟩ := hq.first
  obtain ⟨g0, g1⟩ := hq.last
  have hlen := hq.lo
  have HZ := hide hsz
  have HQ := hide hseg
  have HT := hide htext
  clear hseg htext hq hsz
  have s1 : IntKind.i64.wrap ((S.size : Int) - 1) = (S.size : Int) - 1 := IntWalk.i64_in _ (by omega)
  have p1 : (0 : Int) ≤ (S.size : Int) - 1 := by omega
  have q1 : (S.size : Int) - 1 < (S.size : Int) := by omega
  have t1 : ((S.size : Int) - 1).toNat = S.size - 1 := by omega
  have e2 : decide ((S.size : Int) < 2) = false := by simp; omega
  go_enter Tryd.func6, Tryd.ntmps6
  go_big_wp2_with (at_make; refine wpList_make_own _ rfl _ _ 30 rfl w.heap.size 5 i0 (.int .u8 0) 1 Tryd.underlying30 hi hz0 hz1 _ _ _ S.size rfl rfl (by first | rfl | assumption | simp) (by rw [hz2]; omega) (by unfold maxLen; omega) (Nat.le_refl _) ?_; intro w1 hown hg)
  have hb0 : Lib.OwnBuf w.heap.size 5 (.slice (some ⟨w.heap.size, 0, none⟩) 0 S.size) 0 [] w w1 := ⟨World.ownsRowF_of hown, (Below.refl _ _).grown hg (Nat.le_refl _) (by intro k hk; cases hk), hg.size⟩
  have HB0 := hide hb0
  clear hown hg hb0 e2 f1 g1 p1 q1
  go_big_wp2_with fail
  go_loopw [6, 7] (fun vb ix wr => ∃ (i : Nat) (rest : List Int) (l1 l2 : List UInt8), ix = .int .i64 (i : Int) ∧ 1 ≤ i ∧ i + rest.length + 1 = S.size ∧ Hid (Segs rest l2) ∧ Hid (TextAt S i rest) ∧ Hid (l = l1 ++ l2) ∧ Hid (Lib.OwnBuf w.heap.size 5 vb l1.length (l1.map bt) w wr)) (fun _ ix _ => S.size - (intOf ix).toNat)
  case atStart => exact ⟨1, t, [], l, rfl, Nat.le_refl _, by rw [HZ.out]; omega, HQ.out, HT.out, rfl, HB0.out⟩
  case round =>
    obtain ⟨i, rest, l1, l2, rfl, hi1, hil, HS, HA, HL, HB⟩ := hrel
    clear HQ HT HB0 HZ
    by_cases h0 : rest = []
    · subst h0
      have hll : i + 1 = S.size := by simpa using hil
      have hend : ¬ ((i : Int) < (S.size : Int) - 1) := by omega
      have HF : Hid (l1 = l) := by
        have h1 := HS.out
        have h2 := HL.out
        obtain rfl : l2 = [] := h1.nil_inv
        show l1 = l
        rw [h2]; simp
      have hb := HB.out
      clear HB hil
      go_big_wp2_with fail
      go_ret2
      exact ⟨_, rfl, by have := hb; rw [HF.out] at this; exact this⟩
    · obtain ⟨t, la, rest', lb, hseg, hta, hrs, hra, hrl, hla⟩ := piece HS.out HA.out h0
      have hlt : (i : Int) < (S.size : Int) - 1 := by have := hseg.pos; omega
      have hb := HB.out
      have HL2 : Hid (l = (l1 ++ la) ++ lb) := by show l = _; rw [HL.out, hla, List.append_assoc]
      have hll : l1.length + 10 ≤ 140737488355328 := by
        have := congrArg List.length HL.out
        simp at this
        omega
      have HRS := hide hrs
      have HRA := hide hra
      clear HB HS HA HL hla hrs hra h0
      cases hseg with
      | raw c hc =>
        obtain ⟨x1, x2⟩ := hta.get 0 c.toNat rfl
        simp only [Nat.add_zero] at x1 x2
        obtain ⟨x, hx⟩ : ∃ x, x = c.toNat := ⟨_, rfl⟩
        obtain ⟨r1, r2, r3, r4⟩ := hc
        rw [← hx] at x2 r1 r2 r3 r4
        have HX := hide hx
        clear hx hta
        go_big_wp2_with (at_builtin; refine Lib.wpList_append_byte rfl _ _ 30 rfl w.heap.size 5 i0 Tryd.underlying30 hi hz0 hz1 hz2 _ _ _ rfl w _ _ (by assumption) rfl (by omega) ?_; intro _ _ hb)
        go_roundw
        case rel => exact ⟨i + 1, rest', l1 ++ [c], lb, by go_num, by omega, by simp at hrl; omega, HRS.out, by have := HRA.out; simpa [Hid] using this, HL2.out, by
          have := hb
          rw [map_one _ c x HX.out] at this
          simpa [Hid] using this⟩
        case measure => simp [intOf]; omega
      | self c hc =>
        obtain ⟨x1, x2⟩ := hta.get 0 92 rfl
        simp only [Nat.add_zero] at x1 x2
        obtain ⟨y1, y2⟩ := hta.get 1 c.toNat rfl
        obtain ⟨x, hx⟩ : ∃ x, x = c.toNat := ⟨_, rfl⟩
        rw [← hx] at y2 hc
        have HX := hide hx
        simp only [List.length_cons, List.length_nil] at hrl
        have s2 : IntKind.i64.wrap ((i : Int) + 1) = (i : Int) + 1 := IntWalk.i64_in _ (by omega)
        have p2 : (0 : Int) ≤ (i : Int) + 1 := by omega
        have q2 : (i : Int) + 1 < (S.size : Int) := by omega
        have t2 : ((i : Int) + 1).toNat = i + 1 := by omega
        have n2 : ¬ ((S.size : Int) - 1 ≤ (i : Int) + 1) := by omega
        clear hx hta
        have hc2 : x ≠ 92 → x = 34 := by omega
        by_cases hxx : x = 92
        · subst hxx
          go_big_wp2_with (at_builtin; refine Lib.wpList_append_byte rfl _ _ 30 rfl w.heap.size 5 i0 Tryd.underlying30 hi hz0 hz1 hz2 _ _ _ rfl w _ _ (by assumption) rfl (by omega) ?_; intro _ _ hb)
          go_roundw
          case rel => exact ⟨i + 2, rest', l1 ++ [c], lb, by go_num, by omega, by omega, HRS.out, by have := HRA.out; simpa [Hid] using this, HL2.out, by
            have := hb
            have e := map_one l1 c 92 HX.out
            rw [show ((92 : Nat) : Int) = 92 from rfl] at e
            rw [e] at this
            simpa [Hid] using this⟩
          case measure => simp [intOf]; omega
        · obtain rfl := hc2 hxx
          go_big_wp2_with (at_builtin; refine Lib.wpList_append_byte rfl _ _ 30 rfl w.heap.size 5 i0 Tryd.underlying30 hi hz0 hz1 hz2 _ _ _ rfl w _ _ (by assumption) rfl (by omega) ?_; intro _ _ hb)
          go_roundw
          case rel => exact ⟨i + 2, rest', l1 ++ [c], lb, by go_num, by omega, by omega, HRS.out, by have := HRA.out; simpa [Hid] using this, HL2.out, by
            have := hb
            have e := map_one l1 c 34 HX.out
            rw [show ((34 : Nat) : Int) = 34 from rfl] at e
            rw [e] at this
            simpa [Hid] using this⟩
          case measure => simp [intOf]; omega
      | simple e c hm =>
        obtain ⟨x1, x2⟩ := hta.get 0 92 rfl
        simp only [Nat.add_zero] at x1 x2
        have hm2 := hm
        simp only [plainEsc, List.mem_cons, Prod.mk.injEq, List.not_mem_nil, or_false] at hm2
        obtain ⟨y, rfl⟩ := Int.eq_ofNat_of_zero_le (show 0 ≤ e by omega)
        obtain ⟨y1, y2⟩ := hta.get 1 y rfl
        obtain ⟨x, hx⟩ : ∃ x, x = c.toNat := ⟨_, rfl⟩
        rw [← hx] at hm2 hm
        have HX := hide hx
        have HM := hide hm
        simp only [List.length_cons, List.length_nil] at hrl
        have hy1 : y ≠ 92 := by omega
        have hy2 : y ≠ 34 := by omega
        have hx0 : x ≠ 0 := by omega
        have s2 : IntKind.i64.wrap ((i : Int) + 1) = (i : Int) + 1 := IntWalk.i64_in _ (by omega)
        have p2 : (0 : Int) ≤ (i : Int) + 1 := by omega
        have q2 : (i : Int) + 1 < (S.size : Int) := by omega
        have t2 : ((i : Int) + 1).toNat = i + 1 := by omega
        have n2 : ¬ ((S.size : Int) - 1 ≤ (i : Int) + 1) := by omega
        clear hx hta hm hm2
        go_big_wp2_with (first | (go_at_call 9; refine (simple_any (y : Int) x HM.out _).mono ?_; rintro e' w' ⟨rfl, rfl⟩) | (at_builtin; refine Lib.wpList_append_byte rfl _ _ 30 rfl w.heap.size 5 i0 Tryd.underlying30 hi hz0 hz1 hz2 _ _ _ rfl w _ _ (by assumption) rfl (by omega) ?_; intro _ _ hb))
        go_roundw
        case rel => exact ⟨i + 2, rest', l1 ++ [c], lb, by go_num, by omega, by omega, HRS.out, by have := HRA.out; simpa [Hid] using this, HL2.out, by
          have := hb
          rw [map_one _ c x HX.out] at this
          simpa [Hid] using this⟩
        case measure => simp [intOf]; omega
      | hex c =>
        rw [hex_two c] at hta hrl HRA
        obtain ⟨x1, x2⟩ := hta.get 0 92 rfl
        simp only [Nat.add_zero] at x1 x2
        obtain ⟨y1, y2⟩ := hta.get 1 120 rfl
        simp only [List.length_cons, hexDigits_length] at hrl
        have HD := hide (fun j hj => dig_at hta j hj)
        obtain ⟨r, hr⟩ : ∃ r, r = c.toNat := ⟨_, rfl⟩
        rw [← hr] at HD
        have RR := hide hr
        have hr2 : r < 256 := by rw [hr]; exact c.toNat_lt
        clear hr
        have s2 : IntKind.i64.wrap ((i : Int) + 1) = (i : Int) + 1 := IntWalk.i64_in _ (by omega)
        have p2 : (0 : Int) ≤ (i : Int) + 1 := by omega
        have q2 : (i : Int) + 1 < (S.size : Int) := by omega
        have t2 : ((i : Int) + 1).toNat = i + 1 := by omega
        have n2 : ¬ ((S.size : Int) - 1 ≤ (i : Int) + 1) := by omega
        have s3 : IntKind.i64.wrap ((i : Int) + 1 + 2) = (i : Int) + 1 + 2 := IntWalk.i64_in _ (by omega)
        have n3 : ¬ ((S.size : Int) - 1 ≤ (i : Int) + 1 + 2) := by omega
        have s4 : IntKind.i64.wrap ((i : Int) + 2) = (i : Int) + 2 := IntWalk.i64_in _ (by omega)
        clear hta
        go_big_wp2_with (go_at_call 9; refine (simple_none 120 (by omega) _).mono ?_; rintro e' w' ⟨rfl, rfl⟩)
        go_loop [12, 13] (fun rx jx => ∃ j v : Nat, j ≤ 2 ∧ jx = .int .i64 (j : Int) ∧ rx = .int .i64 (v : Int) ∧ Hid (v = val r 2 j)) (fun _ jx => 2 - (intOf jx).toNat)
        case atStart => exact ⟨0, 0, Nat.zero_le _, rfl, rfl, (val_zero _ _).symm⟩
        case round =>
          obtain ⟨j, v, hj, rfl, rfl, HV⟩ := hrel
          by_cases hjn : j < 2
          · obtain ⟨z, hz, z1, z2⟩ := HD.out j hjn
            have HZ := hide hz
            obtain ⟨d, hd⟩ : ∃ d, d = r / 16 ^ (2 - 1 - j) % 16 := ⟨_, rfl⟩
            have hd16 : d < 16 := by omega
            rw [← hd] at HZ
            have HDD := hide hd
            have hvb : v ≤ 268435455 := by rw [HV.out]; exact val_bd (by omega) hjn
            clear hz hd
            have s5 : IntKind.i64.wrap ((i : Int) + 2 + (j : Int)) = (i : Int) + 2 + (j : Int) := IntWalk.i64_in _ (by omega)
            have p5 : (0 : Int) ≤ (i : Int) + 2 + (j : Int) := by omega
            have q5 : (i : Int) + 2 + (j : Int) < (S.size : Int) := by omega
            have t5 : ((i : Int) + 2 + (j : Int)).toNat = i + 2 + j := by omega
            go_big_wp2_with (go_at_call 10; refine (hexVal_any z d HZ.out hd16 _).mono ?_; rintro e' w' ⟨rfl, rfl⟩)
            go_round
            case rel => exact ⟨j + 1, v * 16 + d, by omega, by go_num, congrArg (Value.int .i64) (by omega), by
              show _ = _
              rw [val_step hjn, ← HDD.out, ← HV.out]⟩
            case measure => simp [intOf]; omega
          · obtain rfl : j = 2 := by omega
            obtain rfl : v = r := by rw [HV.out, val_all r 2 (by omega)]
            clear HV HD
            have HX : Hid (v = c.toNat) := RR.out
            go_big_wp2_with (at_builtin; refine Lib.wpList_append_byte rfl _ _ 30 rfl w.heap.size 5 i0 Tryd.underlying30 hi hz0 hz1 hz2 _ _ _ rfl w _ _ (by assumption) rfl (by omega) ?_; intro _ _ hb)
            go_roundw
            case rel => exact ⟨i + 4, rest', l1 ++ [c], lb, by go_num, by omega, by omega, HRS.out, by have := HRA.out; simpa [Hid, hexDigits_length] using this, HL2.out, by
              have := hb
              rw [map_one _ c v HX.out] at this
              simpa [Hid] using this⟩
            case measure => simp [intOf]; omega
      | u4 r r0 r1 rv =>
        skip
        obtain ⟨x1, x2⟩ := hta.get 0 92 rfl
        simp only [Nat.add_zero] at x1 x2
        obtain ⟨y1, y2⟩ := hta.get 1 117 rfl
        simp only [List.length_cons, hexDigits_length] at hrl
        have HD := hide (fun j hj => dig_at hta j hj)
        have HU : OkU 4 r := by
          have h := rv
          simp [Lib.validRune] at h
          exact ⟨r0, by omega, by omega, by omega, rv⟩
        clear rv r0 r1
        have s2 : IntKind.i64.wrap ((i : Int) + 1) = (i : Int) + 1 := IntWalk.i64_in _ (by omega)
        have p2 : (0 : Int) ≤ (i : Int) + 1 := by omega
        have q2 : (i : Int) + 1 < (S.size : Int) := by omega
        have t2 : ((i : Int) + 1).toNat = i + 1 := by omega
        have n2 : ¬ ((S.size : Int) - 1 ≤ (i : Int) + 1) := by omega
        have s3 : IntKind.i64.wrap ((i : Int) + 1 + 4) = (i : Int) + 1 + 4 := IntWalk.i64_in _ (by omega)
        have n3 : ¬ ((S.size : Int) - 1 ≤ (i : Int) + 1 + 4) := by omega
        have s4 : IntKind.i64.wrap ((i : Int) + 2) = (i : Int) + 2 := IntWalk.i64_in _ (by omega)
        clear hta
        go_big_wp2_with (go_at_call 9; refine (simple_none 117 (by omega) _).mono ?_; rintro e' w' ⟨rfl, rfl⟩)
        go_loop [12, 13] (fun rx jx => ∃ j v : Nat, j ≤ 4 ∧ jx = .int .i64 (j : Int) ∧ rx = .int .i64 (v : Int) ∧ Hid (v = val r 4 j)) (fun _ jx => 4 - (intOf jx).toNat)
        case atStart => exact ⟨0, 0, Nat.zero_le _, rfl, rfl, (val_zero _ _).symm⟩
        case round =>
          obtain ⟨j, v, hj, rfl, rfl, HV⟩ := hrel
          by_cases hjn : j < 4
          · obtain ⟨z, hz, z1, z2⟩ := HD.out j hjn
            have HZ := hide hz
            obtain ⟨d, hd⟩ : ∃ d, d = r / 16 ^ (4 - 1 - j) % 16 := ⟨_, rfl⟩
            have hd16 : d < 16 := by omega
            rw [← hd] at HZ
            have HDD := hide hd
            have hvb : v ≤ 268435455 := by rw [HV.out]; exact val_bd (by omega) hjn
            clear hz hd
            have s5 : IntKind.i64.wrap ((i : Int) + 2 + (j : Int)) = (i : Int) + 2 + (j : Int) := IntWalk.i64_in _ (by omega)
            have p5 : (0 : Int) ≤ (i : Int) + 2 + (j : Int) := by omega
            have q5 : (i : Int) + 2 + (j : Int) < (S.size : Int) := by omega
            have t5 : ((i : Int) + 2 + (j : Int)).toNat = i + 2 + j := by omega
            go_big_wp2_with (go_at_call 10; refine (hexVal_any z d HZ.out hd16 _).mono ?_; rintro e' w' ⟨rfl, rfl⟩)
            go_round
            case rel => exact ⟨j + 1, v * 16 + d, by omega, by go_num, congrArg (Value.int .i64) (by omega), by
              show _ = _
              rw [val_step hjn, ← HDD.out, ← HV.out]⟩
            case measure => simp [intOf]; omega
          · obtain rfl : j = 4 := by omega
            obtain rfl : v = r := by rw [HV.out, val_all r 4 HU.hi]
            clear HV HD
            have g3 : decide ((1114111 : Int) < (v : Int)) = false := by have := HU.top; simp; omega
            by_cases h55 : (55296 : Int) ≤ (v : Int)
            · have b4 : decide ((55296 : Int) ≤ (v : Int)) = true := by simpa using h55
              have b5 : decide ((v : Int) ≤ (57343 : Int)) = false := by have := HU.sur; simp; omega
              go_big_wp2_with (go_at_call 11; refine (appRune_any _ _ _ w.heap.size w _ v hb hll HU.lo HU.valid).mono ?_; rintro e' w' ⟨v', rfl, hb2⟩)
              go_roundw
              case rel => exact ⟨i + 2 + 4, rest', l1 ++ Lib.encodeRune (v : Int), lb, by go_num, by omega, by omega, HRS.out, by have := HRA.out; simpa [Hid, hexDigits_length, Nat.add_assoc] using this, HL2.out, by
                have := hb2
                simpa [Hid] using this⟩
              case measure => simp [intOf]; omega
            · have b4 : decide ((55296 : Int) ≤ (v : Int)) = false := by simpa using h55
              go_big_wp2_with (go_at_call 11; refine (appRune_any _ _ _ w.heap.size w _ v hb hll HU.lo HU.valid).mono ?_; rintro e' w' ⟨v', rfl, hb2⟩)
              go_roundw
              case rel => exact ⟨i + 2 + 4, rest', l1 ++ Lib.encodeRune (v : Int), lb, by go_num, by omega, by omega, HRS.out, by have := HRA.out; simpa [Hid, hexDigits_length, Nat.add_assoc] using this, HL2.out, by
                have := hb2
                simpa [Hid] using this⟩
              case measure => simp [intOf]; omega
      | u8 r r0 r1 =>
        skip
        obtain ⟨x1, x2⟩ := hta.get 0 92 rfl
        simp only [Nat.add_zero] at x1 x2
        obtain ⟨y1, y2⟩ := hta.get 1 85 rfl
        simp only [List.length_cons, hexDigits_length] at hrl
        have HD := hide (fun j hj => dig_at hta j hj)
        have HU : OkU 8 r := ⟨by omega, by omega, by omega, by omega, by simp [Lib.validRune]; omega⟩
        clear r0 r1
        have s2 : IntKind.i64.wrap ((i : Int) + 1) = (i : Int) + 1 := IntWalk.i64_in _ (by omega)
        have p2 : (0 : Int) ≤ (i : Int) + 1 := by omega
        have q2 : (i : Int) + 1 < (S.size : Int) := by omega
        have t2 : ((i : Int) + 1).toNat = i + 1 := by omega
        have n2 : ¬ ((S.size : Int) - 1 ≤ (i : Int) + 1) := by omega
        have s3 : IntKind.i64.wrap ((i : Int) + 1 + 8) = (i : Int) + 1 + 8 := IntWalk.i64_in _ (by omega)
        have n3 : ¬ ((S.size : Int) - 1 ≤ (i : Int) + 1 + 8) := by omega
        have s4 : IntKind.i64.wrap ((i : Int) + 2) = (i : Int) + 2 := IntWalk.i64_in _ (by omega)
        clear hta
        go_big_wp2_with (go_at_call 9; refine (simple_none 85 (by omega) _).mono ?_; rintro e' w' ⟨rfl, rfl⟩)
        go_loop [12, 13] (fun rx jx => ∃ j v : Nat, j ≤ 8 ∧ jx = .int .i64 (j : Int) ∧ rx = .int .i64 (v : Int) ∧ Hid (v = val r 8 j)) (fun _ jx => 8 - (intOf jx).toNat)
        case atStart => exact ⟨0, 0, Nat.zero_le _, rfl, rfl, (val_zero _ _).symm⟩
        case round =>
          obtain ⟨j, v, hj, rfl, rfl, HV⟩ := hrel
          by_cases hjn : j < 8
          · obtain ⟨z, hz, z1, z2⟩ := HD.out j hjn
            have HZ := hide hz
            obtain ⟨d, hd⟩ : ∃ d, d = r / 16 ^ (8 - 1 - j) % 16 := ⟨_, rfl⟩
            have hd16 : d < 16 := by omega
            rw [← hd] at HZ
            have HDD := hide hd
            have hvb : v ≤ 268435455 := by rw [HV.out]; exact val_bd (by omega) hjn
            clear hz hd
            have s5 : IntKind.i64.wrap ((i : Int) + 2 + (j : Int)) = (i : Int) + 2 + (j : Int) := IntWalk.i64_in _ (by omega)
            have p5 : (0 : Int) ≤ (i : Int) + 2 + (j : Int) := by omega
            have q5 : (i : Int) + 2 + (j : Int) < (S.size : Int) := by omega
            have t5 : ((i : Int) + 2 + (j : Int)).toNat = i + 2 + j := by omega
            go_big_wp2_with (go_at_call 10; refine (hexVal_any z d HZ.out hd16 _).mono ?_; rintro e' w' ⟨rfl, rfl⟩)
            go_round
            case rel => exact ⟨j + 1, v * 16 + d, by omega, by go_num, congrArg (Value.int .i64) (by omega), by
              show _ = _
              rw [val_step hjn, ← HDD.out, ← HV.out]⟩
            case measure => simp [intOf]; omega
          · obtain rfl : j = 8 := by omega
            obtain rfl : v = r := by rw [HV.out, val_all r 8 HU.hi]
            clear HV HD
            have g3 : decide ((1114111 : Int) < (v : Int)) = false := by have := HU.top; simp; omega
            by_cases h55 : (55296 : Int) ≤ (v : Int)
            · have b4 : decide ((55296 : Int) ≤ (v : Int)) = true := by simpa using h55
              have b5 : decide ((v : Int) ≤ (57343 : Int)) = false := by have := HU.sur; simp; omega
              go_big_wp2_with (go_at_call 11; refine (appRune_any _ _ _ w.heap.size w _ v hb hll HU.lo HU.valid).mono ?_; rintro e' w' ⟨v', rfl, hb2⟩)
              go_roundw
              case rel => exact ⟨i + 2 + 8, rest', l1 ++ Lib.encodeRune (v : Int), lb, by go_num, by omega, by omega, HRS.out, by have := HRA.out; simpa [Hid, hexDigits_length, Nat.add_assoc] using this, HL2.out, by
                have := hb2
                simpa [Hid] using this⟩
              case measure => simp [intOf]; omega
            · have b4 : decide ((55296 : Int) ≤ (v : Int)) = false := by simpa using h55
              go_big_wp2_with (go_at_call 11; refine (appRune_any _ _ _ w.heap.size w _ v hb hll HU.lo HU.valid).mono ?_; rintro e' w' ⟨v', rfl, hb2⟩)
              go_roundw
              case rel => exact ⟨i + 2 + 8, rest', l1 ++ Lib.encodeRune (v : Int), lb, by go_num, by omega, by omega, HRS.out, by have := HRA.out; simpa [Hid, hexDigits_length, Nat.add_assoc] using this, HL2.out, by
                have := hb2
                simpa [Hid] using this⟩
              case measure => simp [intOf]; omega
end Go.Proofs.YtibenbbahaickaaDoor
