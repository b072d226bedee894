/- How many runes a text has that is set behind, or ahead of, padding bytes. Plain Lean over the model's decoder; conditions: the padding is ASCII. -/
import Derived.Test.YtmpdcljnghaekaaDoorSeq
namespace Go.Proofs.YtmpdcljnghaekaaDoor
open Go.RowKit

theorem seqN_same (n k b0 b1 b2 b3 c1 c2 c3 : Nat) (h1 : (1 < n ∧ b1 = c1) ∨ (n ≤ 1 ∧ b1 < 128 ∧ c1 < 128)) (h2 : (2 < n ∧ b2 = c2) ∨ (n ≤ 2 ∧ b2 < 128 ∧ c2 < 128)) (h3 : (3 < n ∧ b3 = c3) ∨ (n ≤ 3 ∧ b3 < 128 ∧ c3 < 128)) :
    seqN (n + k) b0 c1 c2 c3 = seqN n b0 b1 b2 b3 := by
  unfold seqN
  (repeat' split) <;> first | rfl | (exfalso; omega)
theorem seqN_fits (n b0 b1 b2 b3 : Nat) (h0 : 0 < n) : seqN n b0 b1 b2 b3 ≤ n := by
  unfold seqN
  (repeat' split) <;> omega

theorem width_seq (s : ByteArray) (i : Nat) : (Utf8.decode s i).2 = seqN (s.size - i) (s.get! i).toNat (s.get! (i + 1)).toNat (s.get! (i + 2)).toNat (s.get! (i + 3)).toNat := by
  rw [width_at, seqN_eq _ _ _ _ _ (UInt8.toNat_lt _) (UInt8.toNat_lt _) (UInt8.toNat_lt _) (UInt8.toNat_lt _)]

theorem get_out (s : ByteArray) (i : Nat) (h : s.size ≤ i) : s.get! i = 0 := by
  cases s with
  | mk d =>
    show d[i]! = _
    rw [getElem!_neg d i (by show ¬ i < d.size; have : d.size ≤ i := h; omega)]
    rfl

theorem suf_width (s t : ByteArray) (k i : Nat) (hz : t.size = s.size + k) (hlo : ∀ j, j < s.size → t.get! j = s.get! j) (hhi : ∀ j, s.size ≤ j → (t.get! j).toNat < 128) (hi : i < s.size) : (Utf8.decode t i).2 = (Utf8.decode s i).2 := by
  rw [width_seq, width_seq, hz, show s.size + k - i = (s.size - i) + k by omega, hlo i hi]
  have one : ∀ d, (d < s.size - i ∧ (s.get! (i + d)).toNat = (t.get! (i + d)).toNat) ∨ (s.size - i ≤ d ∧ (s.get! (i + d)).toNat < 128 ∧ (t.get! (i + d)).toNat < 128) := by
    intro d
    by_cases h : i + d < s.size
    · exact .inl ⟨by omega, by rw [hlo _ h]⟩
    · exact .inr ⟨by omega, by rw [get_out s _ (by omega)]; decide, hhi _ (by omega)⟩
  exact seqN_same _ _ _ _ _ _ _ _ _ (one 1) (one 2) (one 3)

theorem suf_count (s t : ByteArray) (k : Nat) (hz : t.size = s.size + k) (hlo : ∀ j, j < s.size → t.get! j = s.get! j) (hhi : ∀ j, s.size ≤ j → (t.get! j).toNat < 128) :
    ∀ m i, s.size - i ≤ m → i ≤ s.size → Lib.runeCountFrom t (t.size - i) i = Lib.runeCountFrom s (s.size - i) i + k := by
  intro m
  induction m with
  | zero =>
    intro i hm hi
    obtain rfl : i = s.size := by omega
    rw [Lib.runeCountFrom_end s _ _ (by omega), show t.size - s.size = k + 0 by omega, Lib.head_count t k 0 s.size (by omega) (fun j h _ => hhi j h), Lib.runeCountFrom_end t _ _ (by omega)]
    omega
  | succ m ih =>
    intro i hm hi
    by_cases h : i < s.size
    · have hw := suf_width s t k i hz hlo hhi h
      have hp := Lib.decode_width_pos s i h
      have hq : (Utf8.decode s i).2 ≤ s.size - i := by rw [width_seq]; exact seqN_fits _ _ _ _ _ (by omega)
      have e := ih (i + (Utf8.decode s i).2) (by omega) (by omega)
      rw [show t.size - i = (t.size - i - 1) + 1 by omega, show s.size - i = (s.size - i - 1) + 1 by omega, Lib.runeCountFrom, Lib.runeCountFrom, if_pos (by omega), if_pos h, hw,
        Lib.fuel_enough t (t.size - i - 1) (t.size - (i + (Utf8.decode s i).2)) _ (by omega) (by omega), Lib.fuel_enough s (s.size - i - 1) (s.size - (i + (Utf8.decode s i).2)) _ (by omega) (by omega), e]
      omega
    · exact ih i (by omega) hi

theorem get_list (l : List UInt8) (j : Nat) : (⟨l.toArray⟩ : ByteArray).get! j = l.getD j 0 := (Lib.getD_get!' ⟨l.toArray⟩ j).symm

theorem rc_suf (l : List UInt8) (k : Nat) (p : UInt8) (hp : p.toNat < 128) : Lib.runeCount ⟨(l ++ List.replicate k p).toArray⟩ = Lib.runeCount ⟨l.toArray⟩ + k := by
  have hz : (⟨(l ++ List.replicate k p).toArray⟩ : ByteArray).size = (⟨l.toArray⟩ : ByteArray).size + k := by
    show (l ++ List.replicate k p).toArray.size = l.toArray.size + k
    simp
  have hs : (⟨l.toArray⟩ : ByteArray).size = l.length := by show l.toArray.size = _; simp
  have h := suf_count ⟨l.toArray⟩ ⟨(l ++ List.replicate k p).toArray⟩ k hz (fun j hj => by
    rw [get_list, get_list, List.getD_eq_getElem?_getD, List.getD_eq_getElem?_getD, List.getElem?_append_left (by omega)]) (fun j hj => by
    rw [get_list, List.getD_eq_getElem?_getD, List.getElem?_append_right (by omega), List.getElem?_replicate]
    split
    · exact hp
    · decide) _ 0 (Nat.le_refl _) (Nat.zero_le _)
  simpa [Lib.runeCount] using h

theorem rc_pre (l : List UInt8) (k : Nat) (p : UInt8) (hp : p.toNat < 128) : Lib.runeCount ⟨(List.replicate k p ++ l).toArray⟩ = k + Lib.runeCount ⟨l.toArray⟩ := by
  have hz : (⟨(List.replicate k p ++ l).toArray⟩ : ByteArray).size = k + l.length := by
    show (List.replicate k p ++ l).toArray.size = _
    simp
  have h := Lib.runeCount_split ⟨(List.replicate k p ++ l).toArray⟩ k (by omega) (fun j hj => by
    rw [get_list, List.getD_eq_getElem?_getD, List.getElem?_append_left (by simp; omega), List.getElem?_replicate, if_pos hj]; exact hp)
  rw [h]
  congr 2
  rw [hz]
  show ByteArray.extract _ _ _ = _
  apply ByteArray.ext
  simp [ByteArray.data_extract, List.extract_toArray]
end Go.Proofs.YtmpdcljnghaekaaDoor
