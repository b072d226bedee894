/- A run of numbers that lies in a string from a place on; the quoted text as such a run; the number that a run of hexadecimal digits tells. Plain words; no program in sight. -/
import Derived.Test.YtibenbbahaickaaDoorSegs
import Derived.Laws.BytesArg
namespace Go.Proofs.YtibenbbahaickaaDoor
open Go.Lib

/-- The numbers t stand in the string S from place i on. -/
def TextAt (S : ByteArray) (i : Nat) (t : List Int) : Prop := ∀ j x, t[j]? = some x → ∃ h : i + j < S.size, ((S[i + j]'h).toNat : Int) = x
theorem TextAt.left {S : ByteArray} {i : Nat} {t t' : List Int} (h : TextAt S i (t ++ t')) : TextAt S i t := fun j x hx => h j x (by
  rw [List.getElem?_append_left (List.getElem?_eq_some_iff.1 hx).1]; exact hx)
theorem TextAt.right {S : ByteArray} {i : Nat} {t t' : List Int} (h : TextAt S i (t ++ t')) : TextAt S (i + t.length) t' := fun j x hx => by
  have := h (t.length + j) x (by rw [List.getElem?_append_right (by omega), Nat.add_sub_cancel_left]; exact hx)
  simpa only [Nat.add_assoc] using this
theorem TextAt.fits {S : ByteArray} {i : Nat} {t : List Int} (h : TextAt S i t) (h0 : 0 < t.length) : i + t.length ≤ S.size := by
  obtain ⟨h1, _⟩ := h (t.length - 1) _ (List.getElem?_eq_getElem (by omega))
  omega
/-- The number at a place, as the walk asks it. -/
theorem TextAt.get {S : ByteArray} {i : Nat} {t : List Int} (h : TextAt S i t) (j n : Nat) (hx : t[j]? = some (n : Int)) : ∃ h : i + j < S.size, (S[i + j]'h).toNat = n := by
  obtain ⟨h1, h2⟩ := h j _ hx
  exact ⟨h1, by omega⟩

theorem textAt_nums (l : List Int) (h : ∀ x ∈ l, 0 ≤ x ∧ x < 256) : TextAt (strOfNums l) 0 l := fun j x hx => by
  have hj := (List.getElem?_eq_some_iff.1 hx).1
  have hs : 0 + j < (strOfNums l).size := by rw [strOfNums_size]; omega
  refine ⟨hs, ?_⟩
  have hb := h x (List.mem_of_getElem? hx)
  have e : (strOfNums l)[0 + j]'hs = UInt8.ofNat x.toNat := by
    have h1 : (strOfNums l).data.toList[0 + j]? = some ((strOfNums l)[0 + j]'hs) := by
      rw [List.getElem?_eq_getElem (by rw [bsize]; exact hs)]
      rfl
    have hx' : l[0 + j]? = some x := by rw [Nat.zero_add]; exact hx
    rw [strOfNums_data, List.getElem?_map, hx'] at h1
    simpa using h1.symm
  rw [e, UInt8.toNat_ofNat']
  omega

theorem hexDigit_byte {d : Nat} (h : d < 16) : 48 ≤ hexDigit d ∧ hexDigit d < 256 := by
  unfold hexDigit
  split <;> omega
theorem hexDigits_byte (r : Nat) : ∀ n, ∀ x ∈ hexDigits r n, 0 ≤ x ∧ x < 256
  | 0, x, h => by cases h
  | n + 1, x, h => by
    rcases List.mem_cons.1 h with rfl | h
    · have := hexDigit_byte (d := r / 16 ^ n % 16) (by omega)
      omega
    · exact hexDigits_byte r n x h
theorem Seg.byte {t : List Int} {l : List UInt8} (h : Seg t l) : ∀ x ∈ t, 0 ≤ x ∧ x < 256 := by
  intro x hx
  cases h with
  | raw c h => simp at hx; have := c.toNat_lt; omega
  | self c h => simp at hx; have := c.toNat_lt; omega
  | simple e c h =>
    simp only [plainEsc, List.mem_cons, Prod.mk.injEq, List.not_mem_nil, or_false] at h
    simp at hx
    omega
  | hex c =>
    have h1 := hexDigit_byte (d := c.toNat / 16) (by have := c.toNat_lt; omega)
    have h2 := hexDigit_byte (d := c.toNat % 16) (by omega)
    simp at hx
    omega
  | u4 r h0 h1 h2 =>
    simp only [List.mem_cons] at hx
    rcases hx with rfl | rfl | hx
    · omega
    · omega
    · exact hexDigits_byte r 4 x hx
  | u8 r h0 h1 =>
    simp only [List.mem_cons] at hx
    rcases hx with rfl | rfl | hx
    · omega
    · omega
    · exact hexDigits_byte r 8 x hx
theorem Segs.byte {t : List Int} {l : List UInt8} (h : Segs t l) : ∀ x ∈ t, 0 ≤ x ∧ x < 256 := by
  induction h with
  | nil => intro x hx; cases hx
  | cons h r ih =>
    intro x hx
    rcases List.mem_append.1 hx with hx | hx
    · exact h.byte x hx
    · exact ih x hx

/-- What strconv.Quote gives of the bytes l: the text, its two quotes and a run of pieces between. -/
structure Quoted (S : ByteArray) (l : List UInt8) : Prop where
  size : ∃ t, Segs t l ∧ S.size = t.length + 2 ∧ TextAt S 1 t
  first : ∃ h : 0 < S.size, (S[0]'h).toNat = 34
  last : ∃ h : S.size - 1 < S.size, (S[S.size - 1]'h).toNat = 34
  lo : l.length + 2 ≤ S.size
  hi : S.size ≤ 4 * l.length + 2

theorem quoted_of (T : PrintTabs) (s : ByteArray) : Quoted (strOfNums (quoteZ T s)) s.data.toList := by
  have hs := from_segs T s.size s (Nat.le_refl _)
  have hl := quoteZ_len T s
  have hz : (strOfNums (quoteZ T s)).size = (quoteFrom T s.size s).length + 2 := by
    rw [strOfNums_size]; simp [quoteZ]
  have hb : ∀ x ∈ quoteZ T s, 0 ≤ x ∧ x < 256 := by
    intro x hx
    simp only [quoteZ, List.mem_cons, List.mem_append, List.not_mem_nil, or_false] at hx
    rcases hx with rfl | hx | rfl
    · omega
    · exact hs.byte x hx
    · omega
  have ht := textAt_nums _ hb
  have ht1 : TextAt (strOfNums (quoteZ T s)) 0 ([34] ++ (quoteFrom T s.size s ++ [34])) := ht
  have ht2 := ht1.right
  refine ⟨⟨_, hs, hz, ht2.left⟩, ?_, ?_, ?_, ?_⟩
  · have := ht1.get 0 34 rfl
    simpa using this
  · obtain ⟨h4, h5⟩ := ht2.right.get 0 34 rfl
    have key : ∀ k (hk : k < (strOfNums (quoteZ T s)).size), k = 0 + [(34 : Int)].length + (quoteFrom T s.size s).length + 0 → ((strOfNums (quoteZ T s))[k]'hk).toNat = 34 := by
      rintro k hk rfl
      exact h5
    exact ⟨by omega, key _ (by omega) (by rw [hz]; simp; omega)⟩
  · rw [bsize, strOfNums_size]; exact hl.1
  · rw [bsize, strOfNums_size]; exact hl.2

/-- What the first j digits of n tell. -/
def val (r n : Nat) (j : Nat) : Nat := r / 16 ^ (n - j) % 16 ^ j
theorem val_zero (r n : Nat) : val r n 0 = 0 := by simp [val, Nat.mod_one]
theorem val_step {r n j : Nat} (h : j < n) : val r n (j + 1) = val r n j * 16 + r / 16 ^ (n - 1 - j) % 16 := by
  unfold val
  rw [show n - (j + 1) = n - 1 - j by omega, show n - j = n - 1 - j + 1 by omega, Nat.pow_succ 16 (n - 1 - j), ← Nat.div_div_eq_div_mul, Nat.pow_succ, Nat.mul_comm (16 ^ j) 16, Nat.mod_mul]
  omega
theorem val_all (r n : Nat) (h : r < 16 ^ n) : val r n n = r := by
  unfold val
  rw [Nat.sub_self, Nat.pow_zero, Nat.div_one, Nat.mod_eq_of_lt h]
theorem val_lt (r n j : Nat) : val r n j < 16 ^ j := Nat.mod_lt _ (Nat.pow_pos (by omega))
theorem hexDigits_get (r : Nat) : ∀ (n j : Nat), j < n → (hexDigits r n)[j]? = some (hexDigit (r / 16 ^ (n - 1 - j) % 16))
  | 0, j, h => by omega
  | n + 1, 0, h => by simp [hexDigits]
  | n + 1, j + 1, h => by
    rw [hexDigits, List.getElem?_cons_succ, hexDigits_get r n j (by omega)]
    congr 4
    congr 1
    omega
end Go.Proofs.YtibenbbahaickaaDoor
