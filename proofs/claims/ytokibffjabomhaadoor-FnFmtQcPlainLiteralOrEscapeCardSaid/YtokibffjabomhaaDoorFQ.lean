/- formatter.fmtQc by a contract: behind the call the buffer owns what it owned and, behind that, the quoted rune in its field. Conditions: the formatter and its buffer are the caller's own; lengths of at most 2^20, a width of at most 2^16. -/
import Derived.Test.YtokibffjabomhaaDoorQRune
import Derived.Test.YtokibffjabomhaaDoorZ3
set_option linter.unusedSimpArgs false
namespace Go.Proofs.YtokibffjabomhaaDoor
open Go.RowKit

/-- The quoted rune, as bytes. -/
def qB (T : Lib.PrintTabs) (asc : Bool) (c : Int) : List UInt8 := toB (39 :: (escQ T 39 asc (zzR c) ++ [39]))
theorem qL_byte (T : Lib.PrintTabs) (asc : Bool) (R : Int) : ∀ x ∈ (39 :: (escQ T 39 asc R ++ [39]) : List Int), 0 ≤ x ∧ x < 256 := by
  intro x hx
  simp only [List.mem_cons, List.mem_append, List.not_mem_nil, or_false] at hx
  rcases hx with rfl | hx | rfl
  · omega
  · exact escQ_byte T 39 asc R (by omega) x hx
  · omega
theorem qB_len (T : Lib.PrintTabs) (asc : Bool) (c : Int) : 3 ≤ (qB T asc c).length ∧ (qB T asc c).length ≤ 12 := by
  have := escQ_len T 39 asc (zzR c)
  simp only [qB, toB_len, List.length_cons, List.length_append, List.length_nil]
  omega
theorem qB_bt (T : Lib.PrintTabs) (asc : Bool) (c : Int) : (qB T asc c).map bt = Lib.intCells (39 :: (escQ T 39 asc (zzR c) ++ [39])) := toB_bt (qL_byte T asc _)
theorem nrm_zzR {c r : Int} (h0 : 0 ≤ c) (h : (c ≤ 1114111 ∧ r = c) ∨ (1114111 < c ∧ r = 65533)) : nrm r = zzR c := by
  unfold nrm zzR
  rcases h with ⟨h1, rfl⟩ | ⟨h1, rfl⟩
  · by_cases hs : 55296 ≤ r ∧ r ≤ 57343
    · have hv : ¬ Lib.validRune r = true := by simp [Lib.validRune]; omega
      rw [if_neg hv, if_neg (show ¬ (r ≤ 1114111 ∧ ¬ (55296 ≤ r ∧ r ≤ 57343)) by omega)]
    · have hv : Lib.validRune r = true := by simp [Lib.validRune]; omega
      rw [if_pos hv, if_pos ⟨h1, hs⟩]
  · have hv : Lib.validRune 65533 = true := by decide
    rw [if_pos hv, if_neg (show ¬ (c ≤ 1114111 ∧ ¬ (55296 ≤ c ∧ c ≤ 57343)) by omega)]

/-- What behind the call is. -/
abbrev Fmt (T : Lib.PrintTabs) (fb pb base n : Nat) (xs : List Value) (asc wp mi z : Bool) (wd c : Int) (w : World) (e : Ending) (w' : World) : Prop :=
  e = .returned (.tuple #[]) ∧ (∃ F', Fm w' fb pb base (n + (room wp wd (Lib.runeCount ⟨(qB T asc c).toArray⟩) + (qB T asc c).length)) F' (xs ++ inField mi z (room wp wd (Lib.runeCount ⟨(qB T asc c).toArray⟩)) ((qB T asc c).map bt))) ∧ Below base w w'

section
variable (T : Lib.PrintTabs) (fb pb base n : Nat) (F : Array Value) (xs : List Value) (asc wp mi z : Bool) (wd c : Int) (w : World)
/-- The call of pad, behind the quotation. -/
theorem quoted_pad (r : Int) (hr : nrm r = zzR c) (h : Fm w fb pb base n F xs) (h1 : F[1]? = some (.bool wp)) (h3 : F[3]? = some (.bool mi)) (h7 : F[7]? = some (.bool z)) (h13 : F[13]? = some (.int .i64 wd))
    (hM : w.cell? ⟨0, 0, none⟩ = some (.int .i64 2147483647)) (h0 : 0 < base) (hbf : base ≤ fb) (hbp : base ≤ pb) (hn : n ≤ 1048576) (hw0 : -65536 ≤ wd) (hw1 : wd ≤ 65536) (hone : ∀ v ∈ xs, v.oneCell' = true)
    (w1 : World) (v1 : Value) (hE : EBuf w 40 5 fb 15 68 F v1 ([] ++ Lib.intCells (quoteR T asc r)) w1) :
    Calls Tryd.prog 20 #[.pointer (some ⟨fb, 0, none⟩), v1] w1 (Fmt T fb pb base n xs asc wp mi z wd c w) := by
  have hl := qB_len T asc c
  have hks : ([] : List Value) ++ Lib.intCells (quoteR T asc r) = (qB T asc c).map bt := by
    rw [qB_bt, List.nil_append]
    unfold quoteR
    rw [hr]
  rw [hks] at hE
  obtain ⟨F', fm1, hs, hlo, hv⟩ := h.quoted hE
  have hm : ((qB T asc c).map bt).length = (qB T asc c).length := by simp
  rcases hv with ⟨rfl, hle, hcell⟩ | ⟨h68, _⟩
  · have hb1 : Below base w w1 := hE.below hbf
    rw [hm]
    refine (pad_any fb pb base n F' xs (some ⟨fb, 15, none⟩) (qB T asc c).length 68 (qB T asc c) wp mi z wd w1 fm1 ((hlo 1 (by omega)).trans h1) ((hlo 3 (by omega)).trans h3) ((hlo 7 (by omega)).trans h7) ((hlo 13 (by omega)).trans h13)
      ((hb1.cell (p := ⟨0, 0, none⟩) h0).trans hM) h0 (by omega) hn (fun w' _ hfm => slin_array hfm hm (by omega) hcell) (.inr ⟨_, _, rfl⟩) (by omega) hw0 hw1 hone).mono ?_
    rintro e w2 ⟨he, fm2, hs2⟩
    exact ⟨he, ⟨F', fm2⟩, hb1.trans (hs2.below (Nat.le_refl _) hbp)⟩
  · omega

set_option maxHeartbeats 4000000 in
theorem fmtQc_any (h : Fm w fb pb base n F xs) (h1 : F[1]? = some (.bool wp)) (h3 : F[3]? = some (.bool mi)) (h4 : F[4]? = some (.bool asc)) (h7 : F[7]? = some (.bool z)) (h13 : F[13]? = some (.int .i64 wd)) (hF : F.size = 83)
    (hM : w.cell? ⟨0, 0, none⟩ = some (.int .i64 2147483647)) (h0 : 0 < base) (hbf : base ≤ fb) (hbp : base ≤ pb) (hn : n ≤ 1048576) (hw0 : -65536 ≤ wd) (hw1 : wd ≤ 65536) (hone : ∀ v ∈ xs, v.oneCell' = true)
    (hT : TabsFrom T base w) (hc0 : 0 ≤ c) (hc1 : c ≤ 18446744073709551615) :
    Calls Tryd.prog 16 #[.pointer (some ⟨fb, 0, none⟩), .int .u64 c] w (Fmt T fb pb base n xs asc wp mi z wd c w) := by
  have f4 := h.cell h4
  have hst := EBuf.start (e := 5) h.fm (off := 15) (cap := 68) (by omega) (by unfold maxLen; omega)
  have cQ : ∀ r, -2147483648 ≤ r → r ≤ 2147483647 → Calls Tryd.prog 27 #[.slice (some ⟨fb, 15, none⟩) 0 68, .int .i32 r, .int .u8 39, .bool asc, .bool false] w (Adds w 40 fb 15 68 F [] (quoteR T asc r)) :=
    fun r hlo hhi => quoteRune_any T asc base _ r w hst hbf hT hlo hhi
  have cP : ∀ r, nrm r = zzR c → ∀ w1 v1, EBuf w 40 5 fb 15 68 F v1 ([] ++ Lib.intCells (quoteR T asc r)) w1 → Calls Tryd.prog 20 #[.pointer (some ⟨fb, 0, none⟩), v1] w1 (Fmt T fb pb base n xs asc wp mi z wd c w) :=
    fun r hr w1 v1 hE => quoted_pad T fb pb base n F xs asc wp mi z wd c w r hr h h1 h3 h7 h13 hM h0 hbf hbp hn hw0 hw1 hone w1 v1 hE
  have HP := hide cP
  have HQ := hide cQ
  clear cP cQ h h1 h3 h4 h7 h13 hst hT hM hone
  by_cases hc : c ≤ 1114111
  · have HR := hide (nrm_zzR (r := c) hc0 (.inl ⟨hc, rfl⟩))
    have hw32 : IntKind.i32.wrap c = c := by rw [IntKind.wrap_i32]; omega
    cases asc
    all_goals (
      go_enter Tryd.func16, Tryd.ntmps16
      go_wp2_with (first | (go_at_call 22; go_in) | (go_at_call 21; go_in) | (go_at_call 27; refine (HQ.out c (by omega) (by omega)).mono ?_; rintro e w1 ⟨v1, rfl, hE1⟩; have cP := HP.out c HR.out w1 v1 hE1) | (go_at_call 20; refine cP.mono ?_; rintro e w2 ⟨rfl, hf, hb⟩))
      go_end0
      exact ⟨rfl, hf, hb⟩)
  · have HR := hide (nrm_zzR (r := 65533) hc0 (.inr ⟨by omega, rfl⟩))
    cases asc
    all_goals (
      go_enter Tryd.func16, Tryd.ntmps16
      go_wp2_with (first | (go_at_call 22; go_in) | (go_at_call 21; go_in) | (go_at_call 27; refine (HQ.out 65533 (by omega) (by omega)).mono ?_; rintro e w1 ⟨v1, rfl, hE1⟩; have cP := HP.out 65533 HR.out w1 v1 hE1) | (go_at_call 20; refine cP.mono ?_; rintro e w2 ⟨rfl, hf, hb⟩))
      go_end0
      exact ⟨rfl, hf, hb⟩)
end
end Go.Proofs.YtokibffjabomhaaDoor
