/- utf8.AppendRune and strconv.appendEscapedRune by contracts, onto a buffer that begins in a part of another row: the bytes that they append. Conditions: valid runes; the quote is the sign number 34; not the graphic form. -/
import Derived.Test.YtibndpnoeoajaaaDoorEBuf
import Derived.Test.YtibndpnoeoajaaaDoorProg
import Derived.Test.YtibndpnoeoajaaaDoorShelfE
import Derived.Lib.QuoteHex
import Derived.Handy
import Derived.Outline
import Derived.LoopN
import Derived.WalkLawsBesides
import Derived.WalkSpells
import Derived.BigGuardPart
set_option linter.unusedSimpArgs false
set_option linter.unusedVariables false
namespace Go.Proofs.YtibndpnoeoajaaaDoor
open Go.RowKit

/-- What is appended of the rune r, the quote being q. -/
def escQ (T : Lib.PrintTabs) (q : Int) (asc : Bool) (r : Int) : List Int :=
  if r = q ∨ r = 92 then [92, r]
  else if Lib.isPrintR T r = true ∧ (asc = true → r < 128) then Lib.encodeRuneZ r
  else if r = 7 then [92, 97] else if r = 8 then [92, 98] else if r = 12 then [92, 102] else if r = 10 then [92, 110]
  else if r = 13 then [92, 114] else if r = 9 then [92, 116] else if r = 11 then [92, 118]
  else if r < 32 ∨ r = 127 then [92, 120, Lib.hexDigit (r.toNat / 16), Lib.hexDigit (r.toNat % 16)]
  else if r < 65536 then 92 :: 117 :: Lib.hexDigits r.toNat 4
  else 92 :: 85 :: Lib.hexDigits r.toNat 8

theorem escQ_len (T : Lib.PrintTabs) (q : Int) (asc : Bool) (r : Int) : 1 ≤ (escQ T q asc r).length ∧ (escQ T q asc r).length ≤ 10 := by
  have h4 := Lib.encodeRuneZ_length r
  unfold escQ
  repeat' split
  all_goals first | (simp only [List.length_cons, List.length_nil, Lib.hexDigits]; omega) | omega
theorem escQ_byte (T : Lib.PrintTabs) (q : Int) (asc : Bool) (r : Int) (hq : 0 ≤ q ∧ q < 256) : ∀ x ∈ escQ T q asc r, 0 ≤ x ∧ x < 256 := by
  have hd : ∀ d : Nat, d < 16 → 0 ≤ Lib.hexDigit d ∧ Lib.hexDigit d < 256 := by
    intro d hd
    unfold Lib.hexDigit
    split <;> omega
  have hds : ∀ (r n : Nat), ∀ x ∈ Lib.hexDigits r n, 0 ≤ x ∧ x < 256 := by
    intro r n
    induction n with
    | zero => intro x h; cases h
    | succ n ih =>
      intro x h
      rcases List.mem_cons.1 h with rfl | h
      · exact hd _ (by omega)
      · exact ih x h
  intro x hx
  unfold escQ at hx
  by_cases c0 : r = q ∨ r = 92
  · rw [if_pos c0] at hx; simp at hx; omega
  rw [if_neg c0] at hx
  split at hx
  · exact Lib.encodeRuneZ_byte r x hx
  split at hx
  · simp at hx; omega
  split at hx
  · simp at hx; omega
  split at hx
  · simp at hx; omega
  split at hx
  · simp at hx; omega
  split at hx
  · simp at hx; omega
  split at hx
  · simp at hx; omega
  split at hx
  · simp at hx; omega
  split at hx
  · rename_i hr
    by_cases h16 : r.toNat / 16 < 16
    · have h1 := hd _ h16
      have h2 := hd (r.toNat % 16) (by omega)
      simp at hx; omega
    · omega
  split at hx
  · simp only [List.mem_cons] at hx
    rcases hx with rfl | rfl | hx
    · omega
    · omega
    · exact hds _ _ x hx
  · simp only [List.mem_cons] at hx
    rcases hx with rfl | rfl | hx
    · omega
    · omega
    · exact hds _ _ x hx

theorem info_e : (Tryd.prog.info? 5).map (fun i => (i.zero, i.size, i.bytes)) = some (some (.int .u8 0), 1, 1) := by kernel_rfl

section
variable {W : World} {T' : TypeId} {b off cap : Nat} {F : Array Value}
/-- The call hands back a buffer that holds the bytes l behind what it held. -/
abbrev Adds (W : World) (T' : TypeId) (b off cap : Nat) (F : Array Value) (ks : List Value) (l : List Int) (e : Ending) (w' : World) : Prop := ∃ v', e = .returned v' ∧ EBuf W T' 5 b off cap F v' (ks ++ Lib.intCells l) w'

set_option maxHeartbeats 4000000 in
set_option maxRecDepth 100000 in
theorem nonascii_two (v : Value) (ks : List Value) (r : Int) (w : World) (hb : EBuf W T' 5 b off cap F v ks w) (hlen : ks.length + 10 ≤ 140737488355328) (h0 : 128 ≤ r) (h1 : r ≤ 2047) :
    Calls Tryd.prog 32 #[v, .int .i32 r] w (Adds W T' b off cap F ks [192 + r / 64, 128 + r % 64]) := by
  obtain ⟨i0, hi, hz0, hz1, hz2⟩ := info_parts info_e
  go_enter Tryd.func32, Tryd.ntmps32
  go_wp2_with (at_builtin; refine wpList_append_litE rfl _ _ 24 rfl i0 Tryd.underlying24 hi hz0 hz1 hz2 _ _ rfl w _ 2 rfl (by intro u hu; simp at hu; rcases hu with rfl | rfl <;> rfl) hb rfl (by omega) ?_; intro v' w' hb2)
  go_ret
  exact ⟨_, rfl, by simpa [Lib.intCells] using hb2⟩

set_option maxHeartbeats 4000000 in
set_option maxRecDepth 100000 in
theorem nonascii_three_lo (v : Value) (ks : List Value) (r : Int) (w : World) (hb : EBuf W T' 5 b off cap F v ks w) (hlen : ks.length + 10 ≤ 140737488355328) (h0 : 2048 ≤ r) (h1 : r < 55296) :
    Calls Tryd.prog 32 #[v, .int .i32 r] w (Adds W T' b off cap F ks [224 + r / 4096, 128 + r / 64 % 64, 128 + r % 64]) := by
  obtain ⟨i0, hi, hz0, hz1, hz2⟩ := info_parts info_e
  go_enter Tryd.func32, Tryd.ntmps32
  go_wp2_with (at_builtin; refine wpList_append_litE rfl _ _ 24 rfl i0 Tryd.underlying24 hi hz0 hz1 hz2 _ _ rfl w _ 3 rfl (by intro u hu; simp at hu; rcases hu with rfl | rfl | rfl <;> rfl) hb rfl (by omega) ?_; intro v' w' hb2)
  go_ret
  exact ⟨_, rfl, by simpa [Lib.intCells] using hb2⟩

set_option maxHeartbeats 4000000 in
set_option maxRecDepth 100000 in
theorem nonascii_three_hi (v : Value) (ks : List Value) (r : Int) (w : World) (hb : EBuf W T' 5 b off cap F v ks w) (hlen : ks.length + 10 ≤ 140737488355328) (h0 : 57343 < r) (h1 : r ≤ 65535) :
    Calls Tryd.prog 32 #[v, .int .i32 r] w (Adds W T' b off cap F ks [224 + r / 4096, 128 + r / 64 % 64, 128 + r % 64]) := by
  obtain ⟨i0, hi, hz0, hz1, hz2⟩ := info_parts info_e
  go_enter Tryd.func32, Tryd.ntmps32
  go_wp2_with (at_builtin; refine wpList_append_litE rfl _ _ 24 rfl i0 Tryd.underlying24 hi hz0 hz1 hz2 _ _ rfl w _ 3 rfl (by intro u hu; simp at hu; rcases hu with rfl | rfl | rfl <;> rfl) hb rfl (by omega) ?_; intro v' w' hb2)
  go_ret
  exact ⟨_, rfl, by simpa [Lib.intCells] using hb2⟩

set_option maxHeartbeats 4000000 in
set_option maxRecDepth 100000 in
theorem nonascii_four (v : Value) (ks : List Value) (r : Int) (w : World) (hb : EBuf W T' 5 b off cap F v ks w) (hlen : ks.length + 10 ≤ 140737488355328) (h0 : 65536 ≤ r) (h1 : r ≤ 1114111) :
    Calls Tryd.prog 32 #[v, .int .i32 r] w (Adds W T' b off cap F ks [240 + r / 262144, 128 + r / 4096 % 64, 128 + r / 64 % 64, 128 + r % 64]) := by
  obtain ⟨i0, hi, hz0, hz1, hz2⟩ := info_parts info_e
  go_enter Tryd.func32, Tryd.ntmps32
  go_wp2_with (at_builtin; refine wpList_append_litE rfl _ _ 24 rfl i0 Tryd.underlying24 hi hz0 hz1 hz2 _ _ rfl w _ 4 rfl (by intro u hu; simp at hu; rcases hu with rfl | rfl | rfl | rfl <;> rfl) hb rfl (by omega) ?_; intro v' w' hb2)
  go_ret
  exact ⟨_, rfl, by simpa [Lib.intCells] using hb2⟩

theorem nonascii_any (v : Value) (ks : List Value) (r : Int) (w : World) (hb : EBuf W T' 5 b off cap F v ks w) (hlen : ks.length + 10 ≤ 140737488355328) (h0 : 128 ≤ r) (hv : Lib.validRune r = true) :
    Calls Tryd.prog 32 #[v, .int .i32 r] w (Adds W T' b off cap F ks (Lib.encodeRuneZ r)) := by
  have hr : ¬ (55296 ≤ r ∧ r ≤ 57343) ∧ r ≤ 1114111 := by simp [Lib.validRune] at hv; omega
  by_cases a1 : r ≤ 2047
  · rw [Lib.encodeRuneZ_two h0 a1]; exact nonascii_two v ks r w hb hlen h0 a1
  by_cases a2 : r < 55296
  · rw [Lib.encodeRuneZ_three (by omega)]; exact nonascii_three_lo v ks r w hb hlen (by omega) a2
  by_cases a3 : r ≤ 65535
  · rw [Lib.encodeRuneZ_three (by omega)]; exact nonascii_three_hi v ks r w hb hlen (by omega) a3
  · rw [Lib.encodeRuneZ_four (by omega) (by omega)]; exact nonascii_four v ks r w hb hlen (by omega) (by omega)
set_option maxHeartbeats 4000000 in
theorem appendRune_any (v : Value) (ks : List Value) (r : Int) (w : World) (hb : EBuf W T' 5 b off cap F v ks w) (hlen : ks.length + 10 ≤ 140737488355328) (h0 : 0 ≤ r) (hv : Lib.validRune r = true) :
    Calls Tryd.prog 28 #[v, .int .i32 r] w (Adds W T' b off cap F ks (Lib.encodeRuneZ r)) := by
  obtain ⟨i0, hi, hz0, hz1, hz2⟩ := info_parts info_e
  have hr : r ≤ 1114111 := by simp [Lib.validRune] at hv; omega
  by_cases a1 : r ≤ 127
  · rw [Lib.encodeRuneZ_one h0 a1]
    clear hv
    go_enter Tryd.func28, Tryd.ntmps28
    go_wp2_with (at_builtin; refine wpList_append_litE rfl _ _ 24 rfl i0 Tryd.underlying24 hi hz0 hz1 hz2 _ _ rfl w _ 1 rfl (by intro u hu; simp at hu; subst hu; rfl) hb rfl (by omega) ?_; intro v' w' hb2)
    go_ret
    exact ⟨_, rfl, by simpa [Lib.intCells] using hb2⟩
  · have cN := nonascii_any v ks r w hb hlen (by omega) hv
    clear hv
    go_enter Tryd.func28, Tryd.ntmps28
    go_wp2_with (go_at_call 32; refine cN.mono ?_; rintro e w' ⟨v', rfl, hb2⟩)
    go_ret
    exact ⟨_, rfl, hb2⟩

set_option maxHeartbeats 4000000 in
set_option maxRecDepth 1000000 in
theorem esc_quoted (T : Lib.PrintTabs) (asc : Bool) (v : Value) (ks : List Value) (r : Int) (w : World) (hb : EBuf W T' 5 b off cap F v ks w) (hlen : ks.length + 10 ≤ 140737488355328) (hq : r = 34 ∨ r = 92) :
    Calls Tryd.prog 25 #[v, .int .i32 r, .int .u8 34, .bool asc, .bool false] w (Adds W T' b off cap F ks (escQ T 34 asc r)) := by
  obtain ⟨i0, hi, hz0, hz1, hz2⟩ := info_parts info_e
  have hE : escQ T 34 asc r = [92, r] := by simp [escQ, hq]
  have hw8 : IntKind.u8.wrap r = r := by rcases hq with rfl | rfl <;> rfl
  go_enter Tryd.func25, Tryd.ntmps25
  rcases hq with rfl | rfl
  all_goals (
    go_big_wp2_with (at_builtin; first
      | (refine wpList_append_litE rfl _ _ 24 rfl i0 Tryd.underlying24 hi hz0 hz1 hz2 _ _ rfl _ _ 1 rfl (by intro u hu; simp at hu; subst hu; rfl) (by assumption) rfl (by first | omega | (simp only [List.length_append, List.length_cons, List.length_nil, byteCells_length, Lib.size_two]; omega)) ?_; intro _ _ hb)
      | (refine wpList_append_textE rfl _ _ 24 9 rfl i0 Tryd.underlying24 Tryd.underlying9 hi hz0 hz1 hz2 _ _ rfl (by assumption) _ rfl (by first | omega | (simp only [List.length_append, List.length_cons, List.length_nil, byteCells_length, Lib.size_two]; omega)) ?_; intro _ _ hb))
    go_ret
    refine ⟨_, rfl, ?_⟩
    rw [hE]
    simpa [Lib.intCells, List.append_assoc] using hb)

set_option maxHeartbeats 4000000 in
set_option maxRecDepth 1000000 in
theorem esc_print_asc (T : Lib.PrintTabs) (v : Value) (ks : List Value) (r : Int) (w : World) (hb : EBuf W T' 5 b off cap F v ks w) (hlen : ks.length + 10 ≤ 140737488355328) (hq1 : r ≠ 34) (hq2 : r ≠ 92) (h0 : 32 ≤ r) (h1 : r ≤ 126) :
    Calls Tryd.prog 25 #[v, .int .i32 r, .int .u8 34, .bool true, .bool false] w (Adds W T' b off cap F ks (escQ T 34 true r)) := by
  obtain ⟨i0, hi, hz0, hz1, hz2⟩ := info_parts info_e
  have hp : Lib.isPrintR T r = true := by
    have : r ≤ 255 := by omega
    simp only [Lib.isPrintR, if_pos this, Lib.isPrintLatin]
    simp; omega
  have hE : escQ T 34 true r = [r] := by
    have h128 : r < 128 := by omega
    rw [← Lib.encodeRuneZ_one (show 0 ≤ r by omega) (show r ≤ 127 by omega)]
    simp [escQ, hq1, hq2, hp, h128]
  have cP : Calls Tryd.prog 26 #[.int .i32 r] w fun e w' => e = .returned (.bool true) ∧ w' = w := by
    have e : Lib.isPrintLatin r = true := by simp [Lib.isPrintLatin]; omega
    rw [← e]; exact Tryd.strconv_IsPrint_latin r w (by omega)
  clear hp
  go_enter Tryd.func25, Tryd.ntmps25
  go_big_wp2_with (first | (go_at_call 26; refine cP.mono ?_; rintro e w1 ⟨rfl, rfl⟩) | (at_builtin; first
      | (refine wpList_append_litE rfl _ _ 24 rfl i0 Tryd.underlying24 hi hz0 hz1 hz2 _ _ rfl _ _ 1 rfl (by intro u hu; simp at hu; subst hu; rfl) (by assumption) rfl (by first | omega | (simp only [List.length_append, List.length_cons, List.length_nil, byteCells_length, Lib.size_two]; omega)) ?_; intro _ _ hb)
      | (refine wpList_append_textE rfl _ _ 24 9 rfl i0 Tryd.underlying24 Tryd.underlying9 hi hz0 hz1 hz2 _ _ rfl (by assumption) _ rfl (by first | omega | (simp only [List.length_append, List.length_cons, List.length_nil, byteCells_length, Lib.size_two]; omega)) ?_; intro _ _ hb)))
  go_ret
  refine ⟨_, rfl, ?_⟩
  rw [hE]
  simpa [Lib.intCells, List.append_assoc] using hb

set_option maxHeartbeats 4000000 in
set_option maxRecDepth 1000000 in
theorem esc_print_low (T : Lib.PrintTabs) (v : Value) (ks : List Value) (r : Int) (w : World) (hb : EBuf W T' 5 b off cap F v ks w) (hlen : ks.length + 10 ≤ 140737488355328) (hq1 : r ≠ 34) (hq2 : r ≠ 92) (h0 : 32 ≤ r) (h1 : r ≤ 126) :
    Calls Tryd.prog 25 #[v, .int .i32 r, .int .u8 34, .bool false, .bool false] w (Adds W T' b off cap F ks (escQ T 34 false r)) := by
  obtain ⟨i0, hi, hz0, hz1, hz2⟩ := info_parts info_e
  have hp : Lib.isPrintR T r = true := by
    have : r ≤ 255 := by omega
    simp only [Lib.isPrintR, if_pos this, Lib.isPrintLatin]
    simp; omega
  have hE : escQ T 34 false r = [r] := by
    rw [← Lib.encodeRuneZ_one (show 0 ≤ r by omega) (show r ≤ 127 by omega)]
    simp [escQ, hq1, hq2, hp]
  have cP : Calls Tryd.prog 26 #[.int .i32 r] w fun e w' => e = .returned (.bool true) ∧ w = w' := by
    have e : Lib.isPrintLatin r = true := by simp [Lib.isPrintLatin]; omega
    rw [← e]; exact (Tryd.strconv_IsPrint_latin r w (by omega)).mono fun _ _ h => ⟨h.1, h.2.symm⟩
  have cA : Calls Tryd.prog 28 #[v, .int .i32 r] w (Adds W T' b off cap F ks [r]) := by
    have h := appendRune_any v ks r w hb hlen (by omega) (by simp [Lib.validRune]; omega)
    rw [Lib.encodeRuneZ_one (by omega) (by omega)] at h
    exact h
  clear hp
  go_enter Tryd.func25, Tryd.ntmps25
  go_big_wp2_with (first | (go_at_call 26; refine cP.mono ?_; rintro e w1 ⟨rfl, rfl⟩) | (go_at_call 28; refine cA.mono ?_; rintro e w2 ⟨v2, rfl, hb2⟩))
  go_ret
  refine ⟨_, rfl, ?_⟩
  rw [hE]
  exact hb2

set_option maxHeartbeats 8000000 in
set_option maxRecDepth 1000000 in
theorem esc_named (T : Lib.PrintTabs) (asc : Bool) (v : Value) (ks : List Value) (r : Int) (w : World) (hb : EBuf W T' 5 b off cap F v ks w) (hlen : ks.length + 10 ≤ 140737488355328) (hn : r = 7 ∨ r = 8 ∨ r = 12 ∨ r = 10 ∨ r = 13 ∨ r = 9 ∨ r = 11) :
    Calls Tryd.prog 25 #[v, .int .i32 r, .int .u8 34, .bool asc, .bool false] w (Adds W T' b off cap F ks (escQ T 34 asc r)) := by
  obtain ⟨i0, hi, hz0, hz1, hz2⟩ := info_parts info_e
  have cP : Calls Tryd.prog 26 #[.int .i32 r] w fun e w' => e = .returned (.bool false) ∧ w' = w := by
    have e : Lib.isPrintLatin r = false := by rcases hn with rfl | rfl | rfl | rfl | rfl | rfl | rfl <;> rfl
    rw [← e]; exact Tryd.strconv_IsPrint_latin r w (by omega)
  cases asc
  all_goals (
    go_enter Tryd.func25, Tryd.ntmps25
    rcases hn with rfl | rfl | rfl | rfl | rfl | rfl | rfl
    all_goals (
      go_big_wp2_with (first | (go_at_call 26; refine cP.mono ?_; rintro e w1 ⟨rfl, rfl⟩) | (at_builtin; first
      | (refine wpList_append_litE rfl _ _ 24 rfl i0 Tryd.underlying24 hi hz0 hz1 hz2 _ _ rfl _ _ 1 rfl (by intro u hu; simp at hu; subst hu; rfl) (by assumption) rfl (by first | omega | (simp only [List.length_append, List.length_cons, List.length_nil, byteCells_length, Lib.size_two]; omega)) ?_; intro _ _ hb)
      | (refine wpList_append_textE rfl _ _ 24 9 rfl i0 Tryd.underlying24 Tryd.underlying9 hi hz0 hz1 hz2 _ _ rfl (by assumption) _ rfl (by first | omega | (simp only [List.length_append, List.length_cons, List.length_nil, byteCells_length, Lib.size_two]; omega)) ?_; intro _ _ hb)))
      go_ret
      refine ⟨_, rfl, ?_⟩
      simpa [Lib.intCells, escQ, Lib.isPrintR, Lib.isPrintLatin, byteCells, ByteArray.size] using hb))

set_option maxHeartbeats 8000000 in
set_option maxRecDepth 1000000 in
theorem esc_hex2 (T : Lib.PrintTabs) (asc : Bool) (v : Value) (ks : List Value) (r : Int) (w : World) (hb : EBuf W T' 5 b off cap F v ks w) (hlen : ks.length + 10 ≤ 140737488355328) (h0 : 0 ≤ r) (hx : r < 32 ∨ r = 127) (hn : ¬ (r = 7 ∨ r = 8 ∨ r = 12 ∨ r = 10 ∨ r = 13 ∨ r = 9 ∨ r = 11)) :
    Calls Tryd.prog 25 #[v, .int .i32 r, .int .u8 34, .bool asc, .bool false] w (Adds W T' b off cap F ks (escQ T 34 asc r)) := by
  obtain ⟨i0, hi, hz0, hz1, hz2⟩ := info_parts info_e
  have cP : Calls Tryd.prog 26 #[.int .i32 r] w fun e w' => e = .returned (.bool false) ∧ w' = w := by
    have e : Lib.isPrintLatin r = false := by simp [Lib.isPrintLatin]; omega
    rw [← e]; exact Tryd.strconv_IsPrint_latin r w (by omega)
  obtain ⟨k, rfl⟩ := Int.eq_ofNat_of_zero_le h0
  have hk : k < 128 := by omega
  have hw8 : IntKind.u8.wrap (k : Int) = (k : Int) := by
    have e : (k : Int) % 256 = k := Int.emod_eq_of_lt (by omega) (by omega)
    simp [IntKind.wrap, IntKind.bits, IntKind.signed, e]
  have hE : escQ T 34 asc (k : Int) = [92, 120, Lib.hexDigit (k / 16), Lib.hexDigit (k % 16)] := by
    have a1 : ¬ ((k : Int) = 34 ∨ (k : Int) = 92) := by omega
    have a2 : Lib.isPrintR T (k : Int) = false := by
      have : (k : Int) ≤ 255 := by omega
      simp only [Lib.isPrintR, if_pos this, Lib.isPrintLatin]
      simp; omega
    have a3 : ¬ (Lib.isPrintR T (k : Int) = true ∧ (asc = true → (k : Int) < 128)) := by rw [a2]; simp
    have b7 : ¬ (k : Int) = 7 := by omega
    have b8 : ¬ (k : Int) = 8 := by omega
    have b12 : ¬ (k : Int) = 12 := by omega
    have b10 : ¬ (k : Int) = 10 := by omega
    have b13 : ¬ (k : Int) = 13 := by omega
    have b9 : ¬ (k : Int) = 9 := by omega
    have b11 : ¬ (k : Int) = 11 := by omega
    simp only [escQ, if_neg a1, if_neg a3, if_neg b7, if_neg b8, if_neg b12, if_neg b10, if_neg b13, if_neg b9, if_neg b11, if_pos hx, Int.toNat_natCast]
  have HE : Hid (escQ T 34 asc (k : Int) = [92, 120, Lib.hexDigit (k / 16), Lib.hexDigit (k % 16)]) := hE
  clear hE
  have hq1 : (k : Int) ≠ 34 := by omega
  have hq2 : (k : Int) ≠ 92 := by omega
  cases asc
  all_goals (
    go_enter Tryd.func25, Tryd.ntmps25
    go_big_wp2_with (first | (go_at_call 26; refine cP.mono ?_; rintro e w1 ⟨rfl, rfl⟩) | (at_builtin; first
      | (refine wpList_append_litE rfl _ _ 24 rfl i0 Tryd.underlying24 hi hz0 hz1 hz2 _ _ rfl _ _ 1 rfl (by intro u hu; simp at hu; subst hu; rfl) (by assumption) rfl (by first | omega | (simp only [List.length_append, List.length_cons, List.length_nil, byteCells_length, Lib.size_two]; omega)) ?_; intro _ _ hb)
      | (refine wpList_append_textE rfl _ _ 24 9 rfl i0 Tryd.underlying24 Tryd.underlying9 hi hz0 hz1 hz2 _ _ rfl (by assumption) _ rfl (by first | omega | (simp only [List.length_append, List.length_cons, List.length_nil, byteCells_length, Lib.size_two]; omega)) ?_; intro _ _ hb)))
    all_goals (
      go_ret
      refine ⟨_, rfl, ?_⟩
      rw [HE.out]
      simpa [Lib.intCells, byteCells, Lib.size_two, Lib.lowerhex_at, List.append_assoc] using hb))

/-- strconv.appendEscapedRune at ASCII. -/
theorem esc_low (T : Lib.PrintTabs) (asc : Bool) (v : Value) (ks : List Value) (r : Int) (w : World) (hb : EBuf W T' 5 b off cap F v ks w) (hlen : ks.length + 10 ≤ 140737488355328) (h0 : 0 ≤ r) (h1 : r < 128) :
    Calls Tryd.prog 25 #[v, .int .i32 r, .int .u8 34, .bool asc, .bool false] w (Adds W T' b off cap F ks (escQ T 34 asc r)) := by
  by_cases hq : r = 34 ∨ r = 92
  · exact esc_quoted T asc v ks r w hb hlen hq
  by_cases hn : r = 7 ∨ r = 8 ∨ r = 12 ∨ r = 10 ∨ r = 13 ∨ r = 9 ∨ r = 11
  · exact esc_named T asc v ks r w hb hlen hn
  by_cases hx : r < 32 ∨ r = 127
  · exact esc_hex2 T asc v ks r w hb hlen h0 hx hn
  cases asc
  · exact esc_print_low T v ks r w hb hlen (by omega) (by omega) (by omega) (by omega)
  · exact esc_print_asc T v ks r w hb hlen (by omega) (by omega) (by omega) (by omega)
end
end Go.Proofs.YtibndpnoeoajaaaDoor
