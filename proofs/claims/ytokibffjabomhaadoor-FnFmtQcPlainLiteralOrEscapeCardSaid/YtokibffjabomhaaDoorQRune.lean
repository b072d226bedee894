/- strconv.AppendQuoteRune, AppendQuoteRuneToASCII by contracts: a rune between single quotes, onto a buffer that begins in a part of another row; and what a formatter is behind them. Conditions: room in the numbers; the tables of strconv.IsPrint lie below the row. -/
import Derived.Test.YtokibffjabomhaaDoorEsc
import Derived.Test.YtokibffjabomhaaDoorPadS
namespace Go.Proofs.YtokibffjabomhaaDoor
open Go.RowKit

/-- The rune that is written: U+FFFD where r is none. -/
def nrm (r : Int) : Int := if Lib.validRune r = true then r else 65533
theorem nrm_valid (r : Int) : Lib.validRune (nrm r) = true := by
  unfold nrm
  split
  · assumption
  · decide
theorem nrm_pos (r : Int) : 0 ≤ nrm r := by
  have h := nrm_valid r
  simp [Lib.validRune] at h
  omega
/-- A quoted rune. -/
def quoteR (T : Lib.PrintTabs) (asc : Bool) (r : Int) : List Int := 39 :: (escQ T 39 asc (nrm r) ++ [39])

/-- The tables lie there, whatever is turned from a number on. -/
def TabsFrom (T : Lib.PrintTabs) (B0 : Nat) (W : World) : Prop := ∀ w', Below B0 W w' → Lib.PrintTabsAt 2 3 4 5 T w'

section
variable {W : World} {T' : TypeId} {b off cap : Nat} {F : Array Value}
set_option maxHeartbeats 4000000 in
theorem quoteRune_any (T : Lib.PrintTabs) (asc : Bool) (B0 : Nat) (v : Value) (r : Int) (w : World) (hb : EBuf W T' 5 b off cap F v [] w) (hB0 : B0 ≤ b) (hT : TabsFrom T B0 W) (hlo : -2147483648 ≤ r) (hhi : r ≤ 2147483647) :
    Calls Tryd.prog 27 #[v, .int .i32 r, .int .u8 39, .bool asc, .bool false] w (Adds W T' b off cap F [] (quoteR T asc r)) := by
  obtain ⟨i0, hi, hz0, hz1, hz2⟩ := info_parts info_e
  have HT := hide hT
  have HB0 := hide hB0
  have HB := hide hb
  clear hT hB0
  have cV : ∀ w, Calls Tryd.prog 29 #[.int .i32 r] w fun e w' => e = .returned (.bool (Lib.validRune r)) ∧ w' = w := fun w => Tryd.utf8_ValidRune r w
  have fin : ∀ (R : Int) (w2 w3 : World) (v3 : Value), nrm r = R → EBuf W T' 5 b off cap F v3 ([] ++ [.int .u8 39] ++ Lib.intCells (escQ T 39 asc R) ++ [.int .u8 39]) w3 → EBuf W T' 5 b off cap F v3 ([] ++ Lib.intCells (quoteR T asc r)) w3 := by
    intro R w2 w3 v3 hR h
    have e : ([] : List Value) ++ Lib.intCells (quoteR T asc r) = [] ++ [.int .u8 39] ++ Lib.intCells (escQ T 39 asc R) ++ [.int .u8 39] := by
      simp [quoteR, Lib.intCells, hR]
    rw [e]; exact h
  have FIN := hide fin
  clear fin
  cases hv : Lib.validRune r with
  | true =>
    have HR : Hid (nrm r = r) := by show _ = _; simp [nrm, hv]
    rw [hv] at cV
    have h0 : 0 ≤ r := by simp [Lib.validRune] at hv; omega
    have HV := hide hv
    clear hv
    go_enter Tryd.func27, Tryd.ntmps27
    go_wp2_with (first
      | (at_builtin; refine wpList_append_litE rfl _ _ 22 rfl i0 Tryd.underlying22 hi hz0 hz1 hz2 _ _ rfl w _ 1 rfl (by intro u hu; simp at hu; subst hu; rfl) HB.out rfl (by simp) ?_; intro v1 w1 hb1; have HB1 := hide hb1; clear hb1)
      | (go_at_call 29; refine (cV _).mono ?_; rintro e w2 ⟨rfl, rfl⟩))
    refine (esc_any T asc _ _ r _ HB1.out (by simp) (HT.out _ (HB1.out.below HB0.out)) h0 HV.out).mono ?_
    rintro e w3 ⟨v3, rfl, hb3⟩
    have hl3 : (([] : List Value) ++ [Value.int .u8 39] ++ Lib.intCells (escQ T 39 asc r)).length + 1 ≤ 140737488355328 := by
      have := escQ_len T 39 asc r
      simp [Lib.intCells]; omega
    go_wp2_with (at_builtin; refine wpList_append_litE rfl _ _ 22 rfl i0 Tryd.underlying22 hi hz0 hz1 hz2 _ _ rfl w3 _ 1 rfl (by intro u hu; simp at hu; subst hu; rfl) hb3 rfl hl3 ?_; intro v4 w4 hb4)
    go_ret
    exact ⟨_, rfl, FIN.out r w4 w4 _ HR.out hb4⟩
  | false =>
    have HR : Hid (nrm r = 65533) := by show _ = _; simp [nrm, hv]
    rw [hv] at cV
    clear hv
    go_enter Tryd.func27, Tryd.ntmps27
    go_wp2_with (first
      | (at_builtin; refine wpList_append_litE rfl _ _ 22 rfl i0 Tryd.underlying22 hi hz0 hz1 hz2 _ _ rfl w _ 1 rfl (by intro u hu; simp at hu; subst hu; rfl) HB.out rfl (by simp) ?_; intro v1 w1 hb1; have HB1 := hide hb1; clear hb1)
      | (go_at_call 29; refine (cV _).mono ?_; rintro e w2 ⟨rfl, rfl⟩))
    refine (esc_any T asc _ _ 65533 _ HB1.out (by simp) (HT.out _ (HB1.out.below HB0.out)) (by omega) (by decide)).mono ?_
    rintro e w3 ⟨v3, rfl, hb3⟩
    have hl3 : (([] : List Value) ++ [Value.int .u8 39] ++ Lib.intCells (escQ T 39 asc 65533)).length + 1 ≤ 140737488355328 := by
      have := escQ_len T 39 asc 65533
      simp [Lib.intCells]; omega
    go_wp2_with (at_builtin; refine wpList_append_litE rfl _ _ 22 rfl i0 Tryd.underlying22 hi hz0 hz1 hz2 _ _ rfl w3 _ 1 rfl (by intro u hu; simp at hu; subst hu; rfl) hb3 rfl hl3 ?_; intro v4 w4 hb4)
    go_ret
    exact ⟨_, rfl, FIN.out 65533 w4 w4 _ HR.out hb4⟩
end

/-- A formatter behind a quotation into its own array. -/
theorem Fm.quoted {w w' : World} {fb pb base n : Nat} {F : Array Value} {xs : List Value} {v : Value} {ks : List Value} (h : Fm w fb pb base n F xs) (hE : EBuf w 40 5 fb 15 68 F v ks w') :
    ∃ F', Fm w' fb pb base n F' xs ∧ F'.size = F.size ∧ (∀ i, i < 15 → F'[i]? = F[i]?) ∧
      ((v = .slice (some ⟨fb, 15, none⟩) ks.length 68 ∧ ks.length ≤ 68 ∧ ∀ j, j < ks.length → F'[15 + j]? = ks[j]?) ∨ (68 ≤ ks.length ∧ w'.ownsRowF w.heap.size 5 1 v ks.length ks)) := by
  obtain ⟨F', h1, h2, _, h4, h5⟩ := hE.row
  obtain ⟨A, c, hbox, hown⟩ := h.holds
  have hlt : pb < w.heap.size := (Array.getElem?_eq_some_iff.1 hbox).1
  have hne : ¬ pb = fb := by
    rintro rfl
    rw [h.fm] at hbox
    simp only [Option.some.injEq, Obj.cells.injEq] at hbox
    exact absurd hbox.2.1 (by decide)
  refine ⟨F', ⟨h1, (h4 0 (by omega)).trans h.ptr, ⟨A, c, (hE.block pb hlt hne).trans hbox, ?_⟩, Nat.le_trans h.hb hE.size⟩, h2, h4, h5⟩
  exact hown.kept (row := some fb) ⟨hE.os, hE.tape, hE.output, hE.size, fun k hk hne => hE.block k hk (fun e => hne (by rw [e]))⟩ (.inr (fun e => h.apart hown e.symm))

/-- The bytes of a stretch of the formatter's own array. -/
theorem slin_array {w : World} {fb m : Nat} {F : Array Value} {T : TypeId} {ks : List Value} (hfm : w.heap[fb]? = some (.cells F T (0, 0))) (hm : ks.length = m) (h68 : m ≤ 68) (hc : ∀ j, j < ks.length → F[15 + j]? = ks[j]?) : SlIn w w.heap.size (some ⟨fb, 15, none⟩) m 68 ks :=
  ⟨fun e => (by cases e), h68, by unfold maxLen; omega, hm, fun j u hu => ⟨fb, 15, rfl, (Array.getElem?_eq_some_iff.1 hfm).1, by
    have hj := (List.getElem?_eq_some_iff.1 hu).1
    rw [cell_of_row w fb (15 + j) F T (0, 0) hfm, hc j hj]
    exact hu⟩⟩
end Go.Proofs.YtokibffjabomhaaDoor
