/- What the law compares, by contracts: the shim's string, and the law's own string from its text on. Conditions: as for the texts that it rests on. -/
import Derived.Test.YtibndpnoeoajaaaDoorQA6
import Derived.Test.YtibndpnoeoajaaaDoorQA7
import Derived.Test.YtibndpnoeoajaaaDoorQA8
set_option linter.unusedSimpArgs false
namespace Go.Proofs.YtibndpnoeoajaaaDoor
open Go.RowKit

/-- The padding call at a slice of N bytes answers the string X. -/
def Pads (X : ByteArray) (N : Nat) (wp mi z : Bool) (wd : Int) (b off c : Nat) (w : World) : Prop :=
  Calls Tryd.prog 8 #[.slice (some ⟨b, off, none⟩) N c, .int .i64 (N : Int), .int .i64 wd, .bool wp, .bool mi, .bool z] w fun e w' => e = .returned (.string X) ∧ Below w.heap.size w w'

theorem pads_of {w : World} {A : Option Addr} {N c : Nat} (Q : List UInt8) (wp mi z : Bool) (wd : Int) (h : SlIn w w.heap.size A N c (Q.map bt)) (hn0 : 0 < N) (hn : N ≤ 8388608) (hw0 : 0 ≤ wd) (hw1 : wd ≤ 65536) :
    ∃ b off, A = some ⟨b, off, none⟩ ∧ Pads ⟨(fieldB mi z (room wp wd Q.length) Q).toArray⟩ N wp mi z wd b off c w := by
  obtain ⟨b, off, rfl⟩ := h.form hn0
  refine ⟨b, off, rfl, ?_⟩
  have := zzPad_any b off N c Q wp mi z wd w h hn0 hn hw0 hw1
  rwa [← h.size] at this ⊢

/-- The law's own quoting of T, and the padding behind it, answer X. -/
def Own (X : ByteArray) (N : Nat) (T : ByteArray) (wp mi z : Bool) (wd : Int) : Prop :=
  ∀ w, Calls Tryd.prog 7 #[.string T] w fun e w' => ∃ b off c, e = .returned (.slice (some ⟨b, off, none⟩) N c) ∧ Pads X N wp mi z wd b off c w' ∧ Below w.heap.size w w'

theorem own_quote (T : ByteArray) (hT : T.size ≤ 1048576) (ha : Asc T.data.toList) (wp mi z : Bool) (wd : Int) (hw0 : 0 ≤ wd) (hw1 : wd ≤ 65536) :
    ∃ N, N ≤ 8388608 ∧ Own ⟨(fieldB mi z (room wp wd (toB (quoteL T.data.toList)).length) (toB (quoteL T.data.toList))).toArray⟩ N T wp mi z wd := by
  have hl := quoteL_len ha
  rw [bsz] at hl
  have h0 : 0 < (toB (quoteL T.data.toList)).length := by rw [toB_len]; simp [quoteL]
  have h8 : (toB (quoteL T.data.toList)).length ≤ 8388608 := by rw [toB_len]; omega
  refine ⟨_, h8, fun w => (zzQuote_any T hT ha w).mono ?_⟩
  rintro e w' ⟨A, c, rfl, hin, hb⟩
  obtain ⟨b, off, rfl, hp⟩ := pads_of _ wp mi z wd hin h0 h8 hw0 hw1
  exact ⟨b, off, c, rfl, hp, hb⟩

theorem own_tick (T : ByteArray) (hT : T.size ≤ 1048576) (wp mi z : Bool) (wd : Int) (hw0 : 0 ≤ wd) (hw1 : wd ≤ 65536) {B n : Nat} {v : Value} {xs : List Value} {W w : World}
    (h : Lib.OwnBuf B 5 v n xs W w) (hx : xs = (96 :: (T.data.toList ++ [96])).map bt) {N : Nat} (hn : n = N) (hN : N = T.size + 2) :
    ∃ b off c, v = .slice (some ⟨b, off, none⟩) N c ∧ Pads ⟨(fieldB mi z (room wp wd (96 :: (T.data.toList ++ [96])).length) (96 :: (T.data.toList ++ [96]))).toArray⟩ N wp mi z wd b off c w := by
  subst hx hn
  obtain ⟨A, c, rfl, hin⟩ := own_inF h.1
  obtain ⟨b, off, rfl, hp⟩ := pads_of _ wp mi z wd hin (by omega) (by omega) hw0 hw1
  exact ⟨b, off, c, rfl, hp⟩
theorem quoted_false (l : List UInt8) : quoted false l = toB (quoteL l) := by simp [quoted]
theorem quoted_no {l : List UInt8} (s : Bool) (h : canB l = false) : quoted s l = toB (quoteL l) := by simp [quoted, h]
theorem quoted_yes {l : List UInt8} (h : canB l = true) : quoted true l = 96 :: (l ++ [96]) := by simp [quoted, h]
end Go.Proofs.YtibndpnoeoajaaaDoor
