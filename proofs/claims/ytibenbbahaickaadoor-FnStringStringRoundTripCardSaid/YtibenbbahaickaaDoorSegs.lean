/- The quoted form of a string, piece by piece: raw bytes and escapes, each with the bytes that it stands for. Plain words; no program in sight. -/
import Derived.Lib.QuoteLoop
import Derived.Lib.MapLaws
import Derived.Lib.IndexBytes
namespace Go.Proofs.YtibenbbahaickaaDoor
open Go.Lib

theorem bsize (s : ByteArray) : s.data.toList.length = s.size := Array.length_toList

def okRaw (c : UInt8) : Prop := 32 ≤ c.toNat ∧ c.toNat ≠ 127 ∧ c.toNat ≠ 34 ∧ c.toNat ≠ 92
def plainEsc : List (Int × Nat) := [(97, 7), (98, 8), (102, 12), (110, 10), (114, 13), (116, 9), (118, 11)]

/-- A piece of the quoted text, and the bytes that it stands for. -/
inductive Seg : List Int → List UInt8 → Prop
  | raw (c : UInt8) (h : okRaw c) : Seg [(c.toNat : Int)] [c]
  | self (c : UInt8) (h : c.toNat = 34 ∨ c.toNat = 92) : Seg [92, (c.toNat : Int)] [c]
  | simple (e : Int) (c : UInt8) (h : (e, c.toNat) ∈ plainEsc) : Seg [92, e] [c]
  | hex (c : UInt8) : Seg [92, 120, hexDigit (c.toNat / 16), hexDigit (c.toNat % 16)] [c]
  | u4 (r : Nat) (h0 : 128 ≤ r) (h1 : r < 65536) (h2 : validRune r = true) : Seg (92 :: 117 :: hexDigits r 4) (encodeRune r)
  | u8 (r : Nat) (h0 : 65536 ≤ r) (h1 : r ≤ 1114111) : Seg (92 :: 85 :: hexDigits r 8) (encodeRune r)

inductive Segs : List Int → List UInt8 → Prop
  | nil : Segs [] []
  | cons {t t' : List Int} {l l' : List UInt8} (h : Seg t l) (r : Segs t' l') : Segs (t ++ t') (l ++ l')

theorem Segs.one {t : List Int} {l : List UInt8} (h : Seg t l) : Segs t l := by
  have := Segs.cons h .nil
  simpa using this
theorem Segs.app {t t' : List Int} {l l' : List UInt8} (h : Segs t l) (h' : Segs t' l') : Segs (t ++ t') (l ++ l') := by
  induction h with
  | nil => exact h'
  | cons h r ih => rw [List.append_assoc, List.append_assoc]; exact .cons h ih
theorem Segs.raws : ∀ l : List UInt8, (∀ c ∈ l, okRaw c) → Segs (l.map fun c => (c.toNat : Int)) l
  | [], _ => .nil
  | c :: l, h => Segs.cons (t := [(c.toNat : Int)]) (l := [c]) (.raw c (h c (by simp))) (Segs.raws l fun d hd => h d (by simp [hd]))

theorem enc_map (r : Int) : ((encodeRune r).map fun c => (c.toNat : Int)) = encodeRuneZ r := by
  unfold encodeRune
  rw [List.map_map]
  conv => rhs; rw [← List.map_id (encodeRuneZ r)]
  refine List.map_congr_left fun x hx => ?_
  have hb := encodeRuneZ_byte r x hx
  have h2 : x.toNat.toUInt8.toNat = x.toNat := by
    rw [show x.toNat.toUInt8 = UInt8.ofNat x.toNat from rfl, UInt8.toNat_ofNat']
    omega
  simp only [Function.comp, id, h2]
  omega
theorem encZ_high {r : Int} (h : ¬ (0 ≤ r ∧ r ≤ 127)) : ∀ x ∈ encodeRuneZ r, 128 ≤ x := by
  intro x hx
  unfold encodeRuneZ at hx
  rw [if_neg h] at hx
  split at hx
  · simp at hx; omega
  · split at hx
    · simp at hx; omega
    · split at hx
      · simp at hx; omega
      · simp at hx; omega
theorem enc_high {r : Int} (h : ¬ (0 ≤ r ∧ r ≤ 127)) : ∀ c ∈ encodeRune r, okRaw c := by
  intro c hc
  have h1 : (c.toNat : Int) ∈ encodeRuneZ r := by rw [← enc_map]; exact List.mem_map.2 ⟨c, hc, rfl⟩
  have h2 := encZ_high h _ h1
  unfold okRaw
  omega
theorem enc_low {r : Nat} (h : r ≤ 127) : encodeRune (r : Int) = [UInt8.ofNat r] := by
  unfold encodeRune
  rw [encodeRuneZ_one (by omega) (by omega)]
  simp
theorem ofNat_low {r : Nat} (h : r ≤ 127) : (UInt8.ofNat r).toNat = r := by rw [UInt8.toNat_ofNat']; omega
theorem enc_bad {r : Int} (h : validRune r = false) : encodeRune r = encodeRune (65533 : Nat) := by
  have h1 : r < 0 ∨ (55296 ≤ r ∧ r ≤ 57343) ∨ 1114111 < r := by
    simp [validRune] at h
    omega
  unfold encodeRune
  rw [encodeRuneZ_bad h1]
  rfl

theorem esc_segs (T : PrintTabs) (r : Nat) : Segs (escRune T (r : Int)) (encodeRune (r : Int)) := by
  unfold escRune
  by_cases c0 : (r : Int) = 34 ∨ (r : Int) = 92
  · rw [if_pos c0, enc_low (by omega)]
    have := Seg.self (UInt8.ofNat r) (by rw [ofNat_low (by omega)]; omega)
    rw [ofNat_low (by omega)] at this
    exact .one this
  rw [if_neg c0]
  by_cases c1 : isPrintR T (r : Int) = true
  · rw [if_pos c1, ← enc_map]
    refine Segs.raws _ ?_
    by_cases hr : r ≤ 127
    · intro c hc
      rw [enc_low hr] at hc
      obtain rfl : c = UInt8.ofNat r := by simpa using hc
      unfold okRaw
      rw [ofNat_low hr]
      unfold isPrintR at c1
      rw [if_pos (by omega)] at c1
      simp [isPrintLatin] at c1
      omega
    · exact enc_high (by omega)
  rw [if_neg c1]
  have simp1 : ∀ (n : Nat) (e : Int), r = n → n ≤ 127 → (e, n) ∈ plainEsc → Segs [92, e] (encodeRune (r : Int)) := by
    intro n e hn hle hm
    subst hn
    rw [enc_low hle]
    exact .one (.simple e _ (by rw [ofNat_low hle]; exact hm))
  by_cases c2 : (r : Int) = 7
  · rw [if_pos c2]; exact simp1 7 97 (by omega) (by omega) (by decide)
  rw [if_neg c2]
  by_cases c3 : (r : Int) = 8
  · rw [if_pos c3]; exact simp1 8 98 (by omega) (by omega) (by decide)
  rw [if_neg c3]
  by_cases c4 : (r : Int) = 12
  · rw [if_pos c4]; exact simp1 12 102 (by omega) (by omega) (by decide)
  rw [if_neg c4]
  by_cases c5 : (r : Int) = 10
  · rw [if_pos c5]; exact simp1 10 110 (by omega) (by omega) (by decide)
  rw [if_neg c5]
  by_cases c6 : (r : Int) = 13
  · rw [if_pos c6]; exact simp1 13 114 (by omega) (by omega) (by decide)
  rw [if_neg c6]
  by_cases c7 : (r : Int) = 9
  · rw [if_pos c7]; exact simp1 9 116 (by omega) (by omega) (by decide)
  rw [if_neg c7]
  by_cases c8 : (r : Int) = 11
  · rw [if_pos c8]; exact simp1 11 118 (by omega) (by omega) (by decide)
  rw [if_neg c8]
  by_cases c9 : (r : Int) < 32 ∨ (r : Int) = 127
  · rw [if_pos c9, enc_low (by omega)]
    have := Seg.hex (UInt8.ofNat r)
    rw [ofNat_low (by omega)] at this
    exact .one (by simpa using this)
  rw [if_neg c9]
  by_cases c10 : validRune (r : Int) = false
  · rw [if_pos c10, enc_bad c10]
    exact .one (.u4 65533 (by omega) (by omega) (by decide))
  rw [if_neg c10]
  have hv : validRune (r : Int) = true := by simpa using c10
  have h128 : 128 ≤ r := by
    rcases Nat.lt_or_ge r 128 with h | h
    · exfalso
      apply c1
      unfold isPrintR
      rw [if_pos (by omega)]
      simp [isPrintLatin]
      omega
    · exact h
  by_cases c11 : (r : Int) < 65536
  · rw [if_pos c11]
    have := Seg.u4 r h128 (by omega) hv
    exact .one (by simpa using this)
  rw [if_neg c11]
  have := Seg.u8 r (by omega) (by simp [validRune] at hv; omega)
  exact .one (by simpa using this)

theorem decode_L (s : ByteArray) : decodeL s.data.toList = Utf8.decode s 0 := by
  have := decodeL_drop s 0
  simpa using this

theorem step_segs (T : PrintTabs) (s : ByteArray) (h0 : 0 < s.size) : Segs (quoteStep T s) (s.data.toList.take (Utf8.decode s 0).2) := by
  have hne : s.data.toList ≠ [] := by
    intro h
    have h2 : s.data.toList.length = 0 := by rw [h]; rfl
    have h3 := bsize s
    omega
  by_cases hb : (Utf8.decode s 0).2 = 1 ∧ (Utf8.decode s 0).1 = 65533
  · rw [quoteStep_bad T s h0 hb.1.symm hb.2.symm, hb.1]
    have ht : s.data.toList.take 1 = [s[0]'h0] := by
      cases hl : s.data.toList with
      | nil => exact absurd hl hne
      | cons c l =>
        have : s[0]'h0 = c := by
          have h1 : s.data.toList[0]? = some c := by rw [hl]; rfl
          have h2 : s.data.toList[0]? = some (s[0]'h0) := by
            rw [List.getElem?_eq_getElem (by rw [bsize]; exact h0)]
            rfl
          exact Option.some.inj (h2.symm.trans h1)
        rw [this]
        rfl
    rw [ht]
    exact .one (.hex _)
  · rw [quoteStep_good T s hb]
    have he := encode_decode s.data.toList hne (by rw [decode_L]; exact fun h => hb ⟨h.2, h.1⟩)
    rw [decode_L] at he
    rw [← he]
    exact esc_segs T _

theorem from_segs (T : PrintTabs) : ∀ (f : Nat) (s : ByteArray), s.size ≤ f → Segs (quoteFrom T f s) s.data.toList
  | 0, s, h => by
    have : s.data.toList = [] := List.eq_nil_of_length_eq_zero (by rw [bsize]; omega)
    rw [this]
    exact .nil
  | f + 1, s, h => by
    by_cases h0 : 0 < s.size
    · rw [quoteFrom_step T (f + 1) s h0 h]
      have h3 := size_rest s (Utf8.decode s 0).2
      have h4 := width_pos s 0
      have ih := from_segs T f (s.extract (Utf8.decode s 0).2 s.size) (by omega)
      have hx : (s.extract (Utf8.decode s 0).2 s.size).data.toList = s.data.toList.drop (Utf8.decode s 0).2 := by
        exact extract_to_end s _
      rw [hx] at ih
      have := (step_segs T s h0).app ih
      rw [List.take_append_drop] at this
      exact this
    · have : s.data.toList = [] := List.eq_nil_of_length_eq_zero (by rw [bsize]; omega)
      rw [quoteFrom_end T _ s h0, this]
      exact .nil
theorem hexDigits_length (r : Nat) : ∀ n, (hexDigits r n).length = n
  | 0 => rfl
  | n + 1 => by simp [hexDigits, hexDigits_length r n]
theorem enc_len (r : Int) : (encodeRune r).length = (encodeRuneZ r).length := by unfold encodeRune; rw [List.length_map]
theorem enc_len_u4 {r : Nat} (h0 : 128 ≤ r) : 2 ≤ (encodeRune (r : Int)).length ∧ (encodeRune (r : Int)).length ≤ 4 := by
  rw [enc_len]
  unfold encodeRuneZ
  rw [if_neg (by omega)]
  split
  · simp
  · split
    · simp
    · split
      · simp
      · simp
theorem enc_len_u8 {r : Nat} (h0 : 65536 ≤ r) (h1 : r ≤ 1114111) : (encodeRune (r : Int)).length = 4 := by
  rw [enc_len, encodeRuneZ_four (by omega) (by omega)]
  rfl
theorem Seg.len {t : List Int} {l : List UInt8} (h : Seg t l) : l.length ≤ t.length ∧ t.length ≤ 4 * l.length := by
  cases h with
  | raw c h => simp
  | self c h => simp
  | simple e c h => simp
  | hex c => simp
  | u4 r h0 h1 h2 =>
    have h3 := enc_len_u4 h0
    simp only [List.length_cons, hexDigits_length]
    omega
  | u8 r h0 h1 =>
    have h3 := enc_len_u8 h0 h1
    simp only [List.length_cons, hexDigits_length]
    omega
theorem Segs.len {t : List Int} {l : List UInt8} (h : Segs t l) : l.length ≤ t.length ∧ t.length ≤ 4 * l.length := by
  induction h with
  | nil => simp
  | cons h r ih =>
    have h1 := h.len
    simp only [List.length_append]
    omega
/-- The quoted text's length lies between the string's and four times the string's, and two more. -/
theorem quoteZ_len (T : PrintTabs) (s : ByteArray) : s.size + 2 ≤ (quoteZ T s).length ∧ (quoteZ T s).length ≤ 4 * s.size + 2 := by
  have h := (from_segs T s.size s (Nat.le_refl _)).len
  rw [bsize] at h
  simp only [quoteZ, List.length_cons, List.length_append, List.length_nil]
  omega
end Go.Proofs.YtibenbbahaickaaDoor
