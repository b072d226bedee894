/- ASCII strings: utf8.DecodeRuneInString, strconv.CanBackquote, the law's own test for backquotes and the formatter's truncateString by contracts. Conditions: strings of ASCII bytes of at most 2^20 bytes, a precision that is not negative. -/
import Derived.Test.YtibndpnoeoajaaaDoorFmS
import Derived.Lib.IndexBytes
import Derived.Lib.RuneCount
import Derived.Laws.RangeString
import Derived.Laws.RangeAny
import Derived.Lib.Walk
import Derived.LoopTactic
import Derived.Outline
import Derived.BigGuardPart
import Derived.WalkSmall
set_option linter.unusedSimpArgs false
namespace Go.Proofs.YtibndpnoeoajaaaDoor
open Go.RowKit

theorem bsz (s : ByteArray) : s.data.toList.length = s.size := Array.length_toList
/-- Every byte is below 128. -/
def Asc (l : List UInt8) : Prop := ∀ x ∈ l, x.toNat < 128
theorem Asc.at {s : ByteArray} (h : Asc s.data.toList) (j : Nat) (hj : j < s.size) : (s[j]'hj).toNat < 128 := by
  have e : s.data.toList[j]? = some (s[j]'hj) := by
    rw [List.getElem?_eq_getElem (by rw [bsz]; exact hj)]; rfl
  exact h _ (List.mem_of_getElem? e)
theorem Asc.take {l : List UInt8} (h : Asc l) (k : Nat) : Asc (l.take k) := fun x hx => h x (List.mem_of_mem_take hx)
theorem str_cons (s : ByteArray) (h : 0 < s.size) : ∃ y ys, s.data.toList = y :: ys ∧ (s[0]'h) = y ∧ (s.extract 1 s.size).data.toList = ys := by
  cases hl : s.data.toList with
  | nil =>
    have := bsz s
    rw [hl] at this
    simp at this; omega
  | cons y ys =>
    refine ⟨y, ys, rfl, ?_, ?_⟩
    · have e : s.data.toList[0]? = some (s[0]'h) := by
        rw [List.getElem?_eq_getElem (by rw [bsz]; exact h)]; rfl
      rw [hl] at e
      simpa using e.symm
    · rw [Lib.extract_to_end, hl]; rfl
theorem str_at (s : ByteArray) (k : Nat) (h : k < s.size) : s.data.toList[k]? = some (s[k]'h) := by
  rw [List.getElem?_eq_getElem (by rw [bsz]; exact h)]; rfl

theorem decode_low (s : ByteArray) (h : 0 < s.size) (x : Nat) (hx : (s[0]'h).toNat = x) (ha : x < 128) (w : World) :
    Calls Tryd.prog 17 #[.string s] w fun e w' => e = .returned (.tuple #[.int .i32 (x : Int), .int .i64 1]) ∧ w = w' := by
  have hne : (s.toList == ([] : List UInt8)) = false := by
    obtain ⟨y, ys, h1, _⟩ := str_cons s h
    rw [ByteArray.toList_eq, h1]; rfl
  have hI : (0 : Int) < (s.size : Int) := by omega
  have hxI : (x : Int) < 128 := by omega
  clear ha
  go_enter Tryd.func17, Tryd.ntmps17
  go_wp2
  go_ret2
  exact ⟨rfl, rfl⟩

/-- May the bytes stand in backquotes? -/
def canB (l : List UInt8) : Bool := l.all fun x => !(x.toNat == 96 || x.toNat == 127 || (decide (x.toNat < 32) && x.toNat != 9))
theorem canB_cons (x : UInt8) (l : List UInt8) : canB (x :: l) = ((!(x.toNat == 96 || x.toNat == 127 || (decide (x.toNat < 32) && x.toNat != 9))) && canB l) := rfl
theorem canB_app (l m : List UInt8) : canB (l ++ m) = (canB l && canB m) := by simp [canB, List.all_append]
/-- A byte that may not stand there. -/
def badB (x : Nat) : Prop := x = 96 ∨ x = 127 ∨ (x < 32 ∧ x ≠ 9)
theorem bad_of {x : UInt8} (h : badB x.toNat) : (!(x.toNat == 96 || x.toNat == 127 || (decide (x.toNat < 32) && x.toNat != 9))) = false := by
  unfold badB at h
  simp
  omega
theorem good_of {x : UInt8} (h : ¬ badB x.toNat) : (!(x.toNat == 96 || x.toNat == 127 || (decide (x.toNat < 32) && x.toNat != 9))) = true := by
  unfold badB at h
  simp
  omega

set_option maxHeartbeats 4000000 in
theorem canBack_any (s : ByteArray) (hs : s.size ≤ 1048576) (ha : Asc s.data.toList) (w : World) : Calls Tryd.prog 12 #[.string s] w fun e w' => e = .returned (.bool (canB s.data.toList)) ∧ w = w' := by
  have HA := hide ha
  clear ha
  go_enter Tryd.func12, Tryd.ntmps12
  go_big_wp2_with fail
  go_loop [0] (fun vs => ∃ rest : ByteArray, vs = .string rest ∧ rest.size ≤ 1048576 ∧ Hid (Asc rest.data.toList) ∧ Hid (canB rest.data.toList = canB s.data.toList)) (fun vs => match vs with | .string r => r.size | _ => 0)
  case atStart => exact ⟨s, rfl, hs, HA, rfl⟩
  case round =>
    obtain ⟨rest, rfl, hr, HR, HC⟩ := hrel
    by_cases h0 : 0 < rest.size
    · obtain ⟨y, ys, h1, h2, h3⟩ := str_cons rest h0
      obtain ⟨x, hx⟩ : ∃ x, x = y.toNat := ⟨_, rfl⟩
      have hx128 : x < 128 := by rw [hx, ← h2]; exact HR.out.at 0 h0
      have hx0 : (rest[0]'h0).toNat = x := by rw [h2, hx]
      have cD := decode_low rest h0 x hx0 hx128
      have HL := hide h1
      have HY := hide h3
      have HX := hide hx
      have hsz : (rest.extract 1 rest.size).size = rest.size - 1 := by simp [ByteArray.size_extract]
      have hI : (0 : Int) < (rest.size : Int) := by omega
      have hA2 : Hid (Asc (rest.extract 1 rest.size).data.toList) := by
        show Asc _
        rw [HY.out]
        intro z hz
        exact HR.out z (by rw [HL.out]; simp [hz])
      clear h1 h2 h3 hx hx0
      by_cases hb : badB x
      · have HF : Hid (canB s.data.toList = false) := by
          show _ = _
          rw [← HC.out, HL.out, canB_cons, bad_of (by rw [← HX.out]; exact hb)]; rfl
        unfold badB at hb
        have hcases : x = 96 ∨ x = 127 ∨ (((x : Int) == 65533) = false ∧ decide ((x : Int) < 32) = true ∧ ((x : Int) != 9) = true) := by
          rcases hb with h | h | ⟨h1, h2⟩
          · exact .inl h
          · exact .inr (.inl h)
          · refine .inr (.inr ⟨?_, ?_, ?_⟩)
            · simp; omega
            · simp; omega
            · simp; omega
        clear hb
        rcases hcases with rfl | rfl | ⟨e0, e1, e2⟩
        all_goals (
          go_big_wp2_with (go_at_call 17; refine (cD _).mono ?_; rintro e w' ⟨rfl, rfl⟩)
          all_goals (
            go_ret
            exact ⟨(by rw [HF.out]; first | done | rfl), rfl⟩))
      · have HF : Hid (canB (rest.extract 1 rest.size).data.toList = canB s.data.toList) := by
          show _ = _
          rw [← HC.out, HL.out, HY.out, canB_cons, good_of (by rw [← HX.out]; exact hb)]; rfl
        unfold badB at hb
        have n1 : ¬ x = 96 := fun h => hb (.inl h)
        have n2 : ¬ x = 127 := fun h => hb (.inr (.inl h))
        have n0 : ¬ (x : Int) = 65533 := by omega
        by_cases n3 : x < 32
        · obtain rfl : x = 9 := by
            by_cases h : x = 9
            · exact h
            · exact absurd (.inr (.inr ⟨n3, h⟩)) hb
          clear hb
          go_big_wp2_with (go_at_call 17; refine (cD _).mono ?_; rintro e w' ⟨rfl, rfl⟩)
          go_round
          case rel => exact ⟨_, rfl, by omega, hA2, HF⟩
          case measure => simp only []; omega
        · clear hb
          have e0 : ((x : Int) == 65533) = false := by simp; omega
          have e1 : decide ((x : Int) < 32) = false := by simp; omega
          have e2 : ((x : Int) == 96) = false := by simp; omega
          have e3 : ((x : Int) == 127) = false := by simp; omega
          clear n0 n1 n2 n3
          go_big_wp2_with (go_at_call 17; refine (cD _).mono ?_; rintro e w' ⟨rfl, rfl⟩)
          go_round
          case rel => exact ⟨_, rfl, by omega, hA2, HF⟩
          case measure => simp only []; omega
    · have h0' : ¬ (0 : Int) < (rest.size : Int) := by omega
      have HF : Hid (canB s.data.toList = true) := by
        show _ = _
        rw [← HC.out, show rest.data.toList = [] from List.eq_nil_of_length_eq_zero (by rw [bsz]; omega)]; rfl
      go_big_wp2_with fail
      go_ret
      exact ⟨(by rw [HF.out]; first | done | rfl), rfl⟩

set_option maxHeartbeats 4000000 in
theorem zzCanB_any (s : ByteArray) (hs : s.size ≤ 1048576) (w : World) : Calls Tryd.prog 6 #[.string s] w fun e w' => e = .returned (.bool (canB s.data.toList)) ∧ w = w' := by
  go_enter Tryd.func6, Tryd.ntmps6
  go_wp2_with fail
  go_loop [3] (fun ix => ∃ k : Nat, k ≤ s.size ∧ ix = .int .i64 (k : Int) ∧ Hid (canB (s.data.toList.take k) = true)) (fun ix => s.size - (intOf ix).toNat)
  case atStart => exact ⟨0, Nat.zero_le _, rfl, rfl⟩
  case round =>
    obtain ⟨k, hk, rfl, HC⟩ := hrel
    by_cases hlt : k < s.size
    · obtain ⟨x, hx⟩ : ∃ x, (s[k]'hlt).toNat = x := ⟨_, rfl⟩
      have HS : Hid (s.data.toList.take (k + 1) = s.data.toList.take k ++ [s[k]'hlt]) := by
        show _ = _
        rw [List.take_add_one, str_at s k hlt]; rfl
      have HX := hide hx
      by_cases hb : badB x
      · have HF : Hid (canB s.data.toList = false) := by
          show _ = _
          rw [← List.take_append_drop (k + 1) s.data.toList, HS.out, canB_app, canB_app, canB_cons, bad_of (by rw [HX.out]; exact hb)]
          simp
        unfold badB at hb
        have hcases : x = 96 ∨ x = 127 ∨ (((x : Int) == 96) = false ∧ ((x : Int) == 127) = false ∧ decide ((x : Int) < 32) = true ∧ ((x : Int) != 9) = true) := by
          rcases hb with h | h | ⟨h1, h2⟩
          · exact .inl h
          · exact .inr (.inl h)
          · refine .inr (.inr ⟨?_, ?_, ?_, ?_⟩)
            · simp; omega
            · simp; omega
            · simp; omega
            · simp; omega
        clear hb
        rcases hcases with rfl | rfl | ⟨e0, e1, e2, e3⟩
        all_goals (
          go_wp2
          all_goals (
            go_ret
            exact ⟨(by rw [HF.out]; first | done | rfl), rfl⟩))
      · have HF : Hid (canB (s.data.toList.take (k + 1)) = true) := by
          show _ = _
          rw [HS.out, canB_app, HC.out, canB_cons, good_of (by rw [HX.out]; exact hb)]; rfl
        unfold badB at hb
        have n1 : ¬ x = 96 := fun h => hb (.inl h)
        have n2 : ¬ x = 127 := fun h => hb (.inr (.inl h))
        by_cases n3 : x < 32
        · obtain rfl : x = 9 := by
            by_cases h : x = 9
            · exact h
            · exact absurd (.inr (.inr ⟨n3, h⟩)) hb
          clear hb
          go_wp2
          go_round
          case rel => exact ⟨k + 1, by omega, by go_num, HF⟩
          case measure => simp [intOf]; omega
        · clear hb
          have e1 : decide ((x : Int) < 32) = false := by simp; omega
          have e2 : ((x : Int) == 96) = false := by simp; omega
          have e3 : ((x : Int) == 127) = false := by simp; omega
          clear n1 n2 n3
          go_wp2
          go_round
          case rel => exact ⟨k + 1, by omega, by go_num, HF⟩
          case measure => simp [intOf]; omega
    · obtain rfl : k = s.size := by omega
      have HF : Hid (canB s.data.toList = true) := by
        show _ = _
        have := HC.out
        rw [List.take_of_length_le (by rw [bsz]; exact Nat.le_refl _)] at this
        exact this
      go_wp2
      go_ret
      exact ⟨(by rw [HF.out]; first | done | rfl), rfl⟩

/-- The string cut to the precision. -/
def cutTo (pp : Bool) (prec : Int) (s : ByteArray) : ByteArray := if pp = true ∧ prec < s.size then s.extract 0 prec.toNat else s

set_option maxHeartbeats 2000000 in
theorem truncate_any (fb : Nat) (pp : Bool) (prec : Int) (s : ByteArray) (w : World) (f2 : w.cell? ⟨fb, 2, none⟩ = some (.bool pp)) (f14 : w.cell? ⟨fb, 14, none⟩ = some (.int .i64 prec)) (hp : 0 ≤ prec) (hp1 : prec ≤ 9223372036854775807) (ha : Asc s.data.toList) :
    Calls Tryd.prog 11 #[.pointer (some ⟨fb, 0, none⟩), .string s] w fun e w' => e = .returned (.string (cutTo pp prec s)) ∧ Below w.heap.size w w' := by
  obtain ⟨o, ho⟩ : ∃ o, cutTo pp prec s = o := ⟨_, rfl⟩
  rw [ho]
  unfold cutTo at ho
  cases pp
  · rw [if_neg (by simp)] at ho; subst ho
    go_enter Tryd.func11, Tryd.ntmps11
    go_wp2
    go_ret
    exact ⟨rfl, Below.refl _ _⟩
  · have HO := hide ho
    have HA := hide ha
    clear ho ha
    go_enter Tryd.func11, Tryd.ntmps11
    go_wp2_with fail
    clear f2 f14
    go_loopw [5] (fun n w' => ∃ pos : Nat, w' = w.iter s pos ∧ pos ≤ s.size ∧ (pos : Int) ≤ prec ∧ n = .int .i64 (prec - pos)) (fun _ w' => s.size - w'.iterPos w.heap.size)
    case atStart => exact ⟨0, rfl, Nat.zero_le _, by omega, by simp⟩
    case round =>
      obtain ⟨pos, rfl, hps, hpp, rfl⟩ := hrel
      by_cases hlt : pos < s.size
      · have hnx : ∀ ty, (Instr.next (.pointer (some ⟨w.heap.size, 0, none⟩)) true ty).run Tryd.prog (w.iter s pos) = .ok (.tuple #[.bool true, .int .i64 pos, .int .i32 ((s[pos]'hlt).toNat : Nat)]) (w.iter s (pos + 1)) := fun ty => by
          have := run_next_any (P := Tryd.prog) w s pos ty hlt
          rw [decode_ascii s pos hlt (HA.out.at pos hlt)] at this
          exact this
        have hw1 : IntKind.i64.wrap (prec - (pos : Int) - 1) = prec - (pos : Int) - 1 := IntWalk.i64_in _ (by omega)
        by_cases hend : prec = pos
        · have HF : Hid (o = s.extract 0 pos) := by
            show _ = _
            rw [← HO.out, if_pos (by simp; omega), hend]; simp
          have hd : decide (prec - (pos : Int) - 1 < 0) = true := by simp; omega
          have hpI : (pos : Int) ≤ (s.size : Int) := by omega
          clear hend
          go_wp2
          go_ret
          exact ⟨(by rw [HF.out]; first | done | rfl), (Below.refl _ _).alloc (Nat.le_refl _) _⟩
        · have hd : decide (prec - (pos : Int) - 1 < 0) = false := by simp; omega
          go_wp2
          go_roundw
          case rel => exact ⟨pos + 1, rfl, by omega, by omega, congrArg (Value.int .i64) (by omega)⟩
          case measure => simp; omega
      · have hnx : ∀ ty, (Instr.next (.pointer (some ⟨w.heap.size, 0, none⟩)) true ty).run Tryd.prog (w.iter s pos) = _ := fun ty => run_next_end w s pos ty hlt
        have HF : Hid (o = s) := by
          show _ = _
          rw [← HO.out, if_neg (by simp; omega)]
        go_wp2
        go_ret
        exact ⟨(by rw [HF.out]; first | done | rfl), (Below.refl _ _).alloc (Nat.le_refl _) _⟩
end Go.Proofs.YtibndpnoeoajaaaDoor
