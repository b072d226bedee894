/- The law's helpers by contracts: a byte repeated, hexadecimal digits, the valid rune, a rune's UTF-8 bytes. Conditions: lengths of at most 2^40; runes of at most U+10FFFF. -/
import Derived.Test.YtokibffjabomhaaDoorCat
import Derived.Test.YtokibffjabomhaaDoorEsc
import Derived.Laws.BitsLemmas
import Derived.Lib.BufSteps
import Derived.Deep.QuietTactic
import Derived.BigQuiet
set_option linter.unusedSimpArgs false
namespace Go.Proofs.YtokibffjabomhaaDoor
open Go.RowKit

/-- The bytes of numbers. -/
def toB (l : List Int) : List UInt8 := l.map fun x => UInt8.ofNat x.toNat
theorem toB_bt {l : List Int} (h : ∀ x ∈ l, 0 ≤ x ∧ x < 256) : (toB l).map bt = Lib.intCells l := by
  unfold toB Lib.intCells
  rw [List.map_map]
  refine List.map_congr_left fun x hx => ?_
  have hb := h x hx
  simp only [Function.comp, bt]
  congr 1
  rw [UInt8.toNat_ofNat']
  omega
theorem toB_len (l : List Int) : (toB l).length = l.length := by simp [toB]
theorem toB_app (l m : List Int) : toB (l ++ m) = toB l ++ toB m := by simp [toB]
theorem hexDigit_byte {d : Nat} (h : d < 16) : 48 ≤ Lib.hexDigit d ∧ Lib.hexDigit d < 256 := by
  unfold Lib.hexDigit
  split <;> omega
theorem hexDigits_byte (r : Nat) : ∀ n, ∀ x ∈ Lib.hexDigits r n, 0 ≤ x ∧ x < 256
  | 0, x, h => by cases h
  | n + 1, x, h => by
    rcases List.mem_cons.1 h with rfl | h
    · have := hexDigit_byte (d := r / 16 ^ n % 16) (by omega)
      omega
    · exact hexDigits_byte r n x h
theorem hexDigits_len (r : Nat) : ∀ n, (Lib.hexDigits r n).length = n
  | 0 => rfl
  | n + 1 => by simp [Lib.hexDigits, hexDigits_len r n]

theorem wrapsU (n : Int) (h0 : 0 ≤ n) (h1 : n < 2 ^ 62) : IntKind.u64.wrap n = n := by
  have e : n % 18446744073709551616 = n := Int.emod_eq_of_lt h0 (by omega)
  simp [IntKind.wrap, IntKind.bits, IntKind.signed, e]
theorem and_u64 (i : Nat) (hi : i ≤ 62) (x : Int) (h0 : 0 ≤ x) (h1 : x < 4611686018427387904) : bits .and .u64 x (2 ^ i - 1) = x % 2 ^ i := bits_mask .u64 62 (by decide) wrapsU i hi x h0 (by omega)
theorem or_u64 (i : Nat) (x y : Int) (hx0 : 0 ≤ x) (hx : x % 2 ^ i = 0) (hx1 : x < 4611686018427387904) (hy0 : 0 ≤ y) (hy : y < 2 ^ i) (hy1 : y < 4611686018427387904) : bits .or .u64 x y = x + y :=
  bits_join .u64 62 (by decide) wrapsU i x y hx0 hx (by omega) hy0 hy (by omega)

/-- A new literal slice is a row of the call's own. -/
theorem own_lit (w : World) (e : TypeId) (l : List Value) (m : Nat) (hm : l.length = m) (h : m ≤ maxLen) : (w.alloc (.cells l.toArray e)).ownsRow w.heap.size e 1 (.slice (some ⟨w.heap.size, 0, none⟩) m m) m l :=
  ⟨by omega, .inr ⟨w.heap.size, m, l.toArray, rfl, Nat.le_refl _, heap_alloc_new w _, Nat.le_refl _, h, by simpa using hm, by simpa using List.take_of_length_le (Nat.le_of_eq hm)⟩⟩

/-- What is owned, its head frozen or not, reads as a slice. -/
theorem own_inF {w : World} {base : Nat} {e : TypeId} {v : Value} {n : Nat} {xs : List Value} (h : w.ownsRowF base e 1 v n xs) : ∃ A c, v = .slice A n c ∧ SlIn w w.heap.size A n c xs := by
  have hl : xs.length = n := by simpa using h.1
  rcases h.2 with ⟨h', h0⟩ | ⟨g, cap, cur, fz, h', hb, hg, hfz, hnc, hcm, hcs, htake⟩
  · subst h0
    have : xs = [] := List.eq_nil_of_length_eq_zero hl
    subst this
    exact ⟨none, 0, h', SlIn.nilSlice w _⟩
  · refine ⟨_, cap, h', fun e => (by cases e), hnc, hcm, hl, fun j u hu => ⟨g, 0, rfl, (Array.getElem?_eq_some_iff.1 hg).1, ?_⟩⟩
    have := h.cells (g := g) (by rw [h']; rfl) j u hu
    simpa [Addr.add_lit] using this

/-- 'buf = append(buf, c, d)' onto a row of the call's own: the new bytes lie in the block that the statement has just laid. -/
theorem wpList_append_litO {P : Program} {ops : Array Oper} {rest : List Oper} {o : Oper} {a : Act} {Q : Exit → Act → World → Prop} (hgd : o.guard = none) (s x : Operand) (t : TypeId)
    (ho : o.op = .call { callee := .builtin .append, args := #[s, x], argTypes := #[t, t] })
    (B : Nat) (e : TypeId) (i : TypeInfo) (ht : P.underlying t = some (.slice e)) (hi : P.info? e = some i) (hz : i.zero = some (.int .u8 0)) (hsize : i.size = 1) (hby : i.bytes = 1)
    (v : Value) (n : Nat) (xs : List Value) (hs : a.eval s = v) (W0 w0 : World) (news : List Value) (m : Nat) (hm : news.length = m) (h1 : ∀ u ∈ news, u.oneCell' = true) (hb : Lib.OwnBuf B e v n xs W0 w0)
    (hx : a.eval x = .slice (some ⟨w0.heap.size, 0, none⟩) m m) (hlen : n + m ≤ 140737488355328)
    (h : ∀ v' w', Lib.OwnBuf B e v' (n + m) (xs ++ news) W0 w' → wpList P ops Q rest (a.put o.dst v') w') : wpList P ops Q (o :: rest) a (w0.alloc (.cells news.toArray e)) := by
  have hb' := hb.alloc (.cells news.toArray e)
  refine wpList_append_ownF _ hgd s x t ho B e i (.int .u8 0) 1 1 ht hi hz hsize hby rfl (by decide) v n xs hs hb'.1 ⟨w0.heap.size, 0, none⟩ m m news hx (by omega) ?_ h1 (by unfold maxLen; omega) (by omega) hb'.2.2 ?_
  · intro j u hj
    have e1 : (⟨w0.heap.size, 0, none⟩ : Addr).add j = ⟨w0.heap.size, j, none⟩ := by by_cases hj0 : j = 0 <;> simp [Addr.add, hj0]
    rw [e1, World.cell?_alloc_new, List.getElem?_toArray]
    exact hj
  · intro v' w' ho' hg _
    exact h v' w' (hb'.grown ho' hg)

set_option maxHeartbeats 1000000 in
theorem repeat_any (c : UInt8) (n : Nat) (hn : n ≤ 1099511627776) (w : World) :
    Calls Tryd.prog 17 #[.int .u8 (c.toNat : Int), .int .i64 (n : Int)] w (Made 5 n ((List.replicate n c).map bt) w) := by
  obtain ⟨i, hi, hz0, hz1, hz2⟩ := info_parts info_u8
  go_enter Tryd.func17, Tryd.ntmps17
  go_wp2_with (at_make; refine wpList_make_own _ rfl _ _ 22 rfl w.heap.size 5 i (.int .u8 0) 1 Tryd.underlying22 hi hz0 hz1 _ _ _ n rfl rfl (by simp) (by rw [hz2]; omega) (by unfold maxLen; omega) (Nat.le_refl _) ?_; intro w1 hown1 hgrow1)
  have HO := hide hown1
  have HB := hide ((Below.refl w.heap.size w).grown hgrow1 (Nat.le_refl _) (fun k hk => by cases hk))
  clear hown1 hgrow1
  go_wp2
  go_loopw [5, 6] (fun v ix wr => ∃ k : Nat, k ≤ n ∧ ix = .int .i64 k ∧ v = .slice (some ⟨w.heap.size, 0, none⟩) k n ∧ Hid (wr.ownsRow w.heap.size 5 1 (.slice (some ⟨w.heap.size, 0, none⟩) k n) k ((List.replicate k c).map bt)) ∧ Hid (Below w.heap.size w wr)) (fun _ ix _ => n - (intOf ix).toNat)
  case atStart => exact ⟨0, Nat.zero_le _, rfl, rfl, HO, HB⟩
  case round =>
    obtain ⟨k, hk, rfl, rfl, HOr, HBr⟩ := hrel
    clear HO HB
    have hsz : w.heap.size < wr.heap.size := (HOr.out.lt w.heap.size rfl).2
    by_cases hlt : k < n
    · go_wp2_with (at_builtin; refine wpList_append_fits _ rfl _ _ 22 rfl w.heap.size 5 i 1 Tryd.underlying22 hi hz1 w.heap.size k n ((List.replicate k c).map bt) rfl (HOr.out.alloc _) ⟨wr.heap.size, 0, none⟩ 1 1 [.int .u8 (c.toNat : Int)] rfl rfl (one_new _ _ _) (one_bt c) (by omega) ?_; intro w2 hown2 hgrow2)
      have R := hide (cat_step HBr.out (Nat.le_of_lt hsz) hown2 hgrow2)
      clear hown2 hgrow2 hsz
      go_wp2
      go_roundw
      case rel => exact ⟨k + 1, by omega, by go_num, rfl, by have := R.out.1; rw [show (List.replicate k c).map bt ++ [Value.int .u8 (c.toNat : Int)] = (List.replicate (k + 1) c).map bt by rw [List.replicate_succ']; simp] at this; exact this, R.out.2⟩
      case measure => simp [intOf]; omega
    · obtain rfl : k = n := by omega
      go_wp2
      go_ret
      exact ⟨_, _, rfl, HOr.out, HBr.out⟩

set_option maxHeartbeats 1000000 in
theorem hexDigit_any (d : Nat) (hd : d < 16) (w : World) : Calls Tryd.prog 23 #[.int .u64 (d : Int)] w fun e w' => e = .returned (.int .u8 (Lib.hexDigit d)) ∧ w' = w := by
  obtain ⟨o, ho⟩ : ∃ o, Lib.hexDigit d = o := ⟨_, rfl⟩
  rw [ho]
  unfold Lib.hexDigit at ho
  by_cases h : d < 10
  · rw [if_pos h] at ho; subst ho
    go_enter Tryd.func23, Tryd.ntmps23
    go_wp2
    go_ret
    exact ⟨rfl, rfl⟩
  · rw [if_neg h] at ho; subst ho
    go_enter Tryd.func23, Tryd.ntmps23
    go_wp2
    go_ret
    exact ⟨congrArg (fun z => Ending.returned (.int .u8 z)) (by omega), rfl⟩

theorem rep_set (k : Nat) (z u : Value) (l : List Value) : (List.replicate (k + 1) z ++ l).set k u = List.replicate k z ++ u :: l := by
  rw [List.replicate_succ', List.append_assoc, List.set_append_right _ _ (by simp)]
  simp

set_option maxHeartbeats 1000000 in
theorem hex_any (x n : Nat) (hn : n ≤ 8) (hx : x ≤ 1114111) (w : World) :
    Calls Tryd.prog 18 #[.int .u64 (x : Int), .int .i64 (n : Int)] w (Made 5 n (Lib.intCells (Lib.hexDigits x n)) w) := by
  obtain ⟨i, hi, hz0, hz1, hz2⟩ := info_parts info_u8
  go_enter Tryd.func18, Tryd.ntmps18
  go_wp2_with (at_make; refine wpList_make_full _ rfl _ _ 22 rfl w.heap.size 5 i (.int .u8 0) 1 Tryd.underlying22 hi hz0 hz1 _ _ _ _ n rfl rfl (by simp) (by simp) (by rw [hz2]; omega) (by unfold maxLen; omega) (Nat.le_refl _) ?_; intro w1 hown1 hgrow1)
  have hb1 : Below w.heap.size w w1 := (Below.refl _ _).grown hgrow1 (Nat.le_refl _) (fun k hk => by cases hk)
  have HO : Hid (w1.ownsRow w.heap.size 5 1 (.slice (some ⟨w.heap.size, 0, none⟩) n n) n (List.replicate n (.int .u8 0) ++ Lib.intCells (Lib.hexDigits x (n - n)))) := by
    have := hown1
    rw [Nat.mul_one, show (Value.int .u8 0).cells = #[.int .u8 0] from rfl, toList_madeCells_one] at this
    simpa [Hid, Lib.hexDigits, Lib.intCells] using this
  have HB := hide hb1
  clear hown1 hgrow1 hb1
  go_wp2
  go_loopw [0, 6] (fun xv ix wr => ∃ k X : Nat, k ≤ n ∧ ix = .int .i64 ((k : Int) - 1) ∧ xv = .int .u64 (X : Int) ∧ Hid (X = x / 16 ^ (n - k)) ∧ X ≤ 1114111 ∧ Hid (wr.ownsRow w.heap.size 5 1 (.slice (some ⟨w.heap.size, 0, none⟩) n n) n (List.replicate k (.int .u8 0) ++ Lib.intCells (Lib.hexDigits x (n - k)))) ∧ Hid (Below w.heap.size w wr)) (fun _ ix _ => ((intOf ix) + 1).toNat)
  case atStart => exact ⟨n, x, Nat.le_refl _, rfl, rfl, by show _ = _; simp, hx, HO, HB⟩
  case round =>
    obtain ⟨k, X, hk, rfl, rfl, HX, hXb, HOr, HBr⟩ := hrel
    clear HO HB
    by_cases hpos : 0 < k
    · obtain ⟨k, rfl⟩ : ∃ q, k = q + 1 := ⟨k - 1, by omega⟩
      rw [show (((k + 1 : Nat) : Int) - 1) = (k : Int) by omega]
      have hm : bits .and .u64 (X : Int) 15 = ((X % 16 : Nat) : Int) := by
        rw [show (15 : Int) = 2 ^ 4 - 1 by rfl, and_u64 4 (by omega) _ (by omega) (by omega)]
        omega
      obtain ⟨d, hd⟩ : ∃ d, d = X % 16 := ⟨_, rfl⟩
      rw [← hd] at hm
      have hd16 : d < 16 := by omega
      have HD := hide hd
      clear hd
      have hdst : wr.cell? ⟨w.heap.size, k, none⟩ = some ((List.replicate (k + 1) (.int .u8 0) ++ Lib.intCells (Lib.hexDigits x (n - (k + 1))))[k]?.getD (.int .u8 0)) := by
        rw [HOr.out.cellAt k (by omega)]
        have : k < (List.replicate (k + 1) (Value.int .u8 0) ++ Lib.intCells (Lib.hexDigits x (n - (k + 1)))).length := by simp; omega
        rw [List.getElem?_eq_getElem this]; rfl
      have hfr : wr.frozen? ⟨w.heap.size, k, none⟩ = false := HOr.out.frozenAt k
      go_wp2_with (go_at_call 23; refine (hexDigit_any d hd16 _).mono ?_; rintro e w' ⟨rfl, rfl⟩)
      go_roundw
      case rel => exact ⟨k, X / 16, by omega, by go_num, congrArg (Value.int .u64) (by omega), by
        show _ = _
        rw [HX.out, show n - k = n - (k + 1) + 1 by omega, Nat.pow_succ, Nat.div_div_eq_div_mul], by omega, hide (by
        have h1 := (HOr.out.stored k (.int .u8 (Lib.hexDigit d))).1
        rw [rep_set] at h1
        have e : Lib.intCells (Lib.hexDigits x (n - k)) = .int .u8 (Lib.hexDigit d) :: Lib.intCells (Lib.hexDigits x (n - (k + 1))) := by
          rw [show n - k = n - (k + 1) + 1 by omega, Lib.hexDigits, HD.out, HX.out]
          rfl
        rw [e]; exact h1), hide (HBr.out.setCell (Nat.le_refl _) _)⟩
      case measure => simp [intOf]
    · obtain rfl : k = 0 := by omega
      go_wp2
      go_ret
      have ho := HOr.out
      rw [Nat.sub_zero, List.replicate_zero, List.nil_append] at ho
      exact ⟨_, _, rfl, ho, HBr.out⟩

/-- The rune that the law speaks of. -/
def zzR (c : Int) : Int := if c ≤ 1114111 ∧ ¬ (55296 ≤ c ∧ c ≤ 57343) then c else 65533
theorem zzR_bd {c : Int} (h : 0 ≤ c) : 0 ≤ zzR c ∧ zzR c ≤ 1114111 ∧ Lib.validRune (zzR c) = true := by
  unfold zzR
  split
  · refine ⟨by omega, by omega, ?_⟩
    simp [Lib.validRune]; omega
  · exact ⟨by omega, by omega, by decide⟩

set_option maxHeartbeats 1000000 in
theorem validRune_any (c : Int) (h0 : 0 ≤ c) (h1 : c ≤ 18446744073709551615) (w : World) : Calls Tryd.prog 13 #[.int .u64 c] w fun e w' => e = .returned (.int .u64 (zzR c)) ∧ w' = w := by
  obtain ⟨o, ho⟩ : ∃ o, zzR c = o := ⟨_, rfl⟩
  rw [ho]
  unfold zzR at ho
  by_cases a1 : c ≤ 1114111
  · have g1 : decide (1114111 < c) = false := by simp; omega
    by_cases a2 : 55296 ≤ c
    · have g2 : decide (55296 ≤ c) = true := by simpa using a2
      by_cases a3 : c ≤ 57343
      · have g3 : decide (c ≤ 57343) = true := by simpa using a3
        rw [if_neg (by omega)] at ho; subst ho
        go_enter Tryd.func13, Tryd.ntmps13
        go_wp2
        go_ret
        exact ⟨rfl, rfl⟩
      · have g3 : decide (c ≤ 57343) = false := by simp; omega
        rw [if_pos (by omega)] at ho; subst ho
        go_enter Tryd.func13, Tryd.ntmps13
        go_wp2
        go_ret
        exact ⟨rfl, rfl⟩
    · have g2 : decide (55296 ≤ c) = false := by simp; omega
      rw [if_pos (by omega)] at ho; subst ho
      go_enter Tryd.func13, Tryd.ntmps13
      go_wp2
      go_ret
      exact ⟨rfl, rfl⟩
  · have g1 : decide (1114111 < c) = true := by simp; omega
    rw [if_neg (by omega)] at ho; subst ho
    go_enter Tryd.func13, Tryd.ntmps13
    go_wp2
    go_ret
    exact ⟨rfl, rfl⟩

set_option maxHeartbeats 2000000 in
theorem utf8_any (r : Int) (h0 : 0 ≤ r) (h1 : r ≤ 1114111) (hv : Lib.validRune r = true) (w : World) : Calls Tryd.prog 14 #[.int .u64 r] w (Made 5 (Lib.encodeRuneZ r).length (Lib.intCells (Lib.encodeRuneZ r)) w) := by
  have hs : ¬ (55296 ≤ r ∧ r ≤ 57343) := by simp [Lib.validRune] at hv; omega
  clear hv
  have fin : ∀ (l : List Int) (W : World), Lib.encodeRuneZ r = l → W = w.alloc (.cells (Lib.intCells l).toArray 5) → Made 5 (Lib.encodeRuneZ r).length (Lib.intCells (Lib.encodeRuneZ r)) w (.returned (.slice (some ⟨w.heap.size, 0, none⟩) l.length l.length)) W := by
    rintro l W hl rfl
    have h4 := Lib.encodeRuneZ_length r
    rw [hl] at h4 ⊢
    exact ⟨_, _, rfl, own_lit w _ _ _ (by simp [Lib.intCells]) (by unfold maxLen; omega), (Below.refl _ _).alloc (Nat.le_refl _) _⟩
  have FIN := hide fin
  clear fin
  have m0 : bits .and .u64 r 63 = r % 64 := and_u64 6 (by omega) _ (by omega) (by omega)
  have o0 : bits .or .u64 128 (r % 64) = 128 + r % 64 := or_u64 6 _ _ (by omega) (by omega) (by omega) (by omega) (by omega) (by omega)
  have m1 : bits .and .u64 (r / 64) 63 = r / 64 % 64 := and_u64 6 (by omega) _ (by omega) (by omega)
  have o1 : bits .or .u64 128 (r / 64 % 64) = 128 + r / 64 % 64 := or_u64 6 _ _ (by omega) (by omega) (by omega) (by omega) (by omega) (by omega)
  have m2 : bits .and .u64 (r / 4096) 63 = r / 4096 % 64 := and_u64 6 (by omega) _ (by omega) (by omega)
  have o2 : bits .or .u64 128 (r / 4096 % 64) = 128 + r / 4096 % 64 := or_u64 6 _ _ (by omega) (by omega) (by omega) (by omega) (by omega) (by omega)
  by_cases a1 : r < 128
  · have HE := hide (Lib.encodeRuneZ_one h0 (by omega))
    go_enter Tryd.func14, Tryd.ntmps14
    go_wp2
    go_ret
    exact FIN.out _ _ HE.out rfl
  by_cases a2 : r < 2048
  · have HE := hide (Lib.encodeRuneZ_two (r := r) (by omega) (by omega))
    have o3 : bits .or .u64 192 (r / 64) = 192 + r / 64 := or_u64 6 _ _ (by omega) (by omega) (by omega) (by omega) (by omega) (by omega)
    go_enter Tryd.func14, Tryd.ntmps14
    go_wp2
    go_ret
    exact FIN.out _ _ HE.out rfl
  by_cases a3 : r < 65536
  · have HE := hide (Lib.encodeRuneZ_three (r := r) (by omega))
    have o3 : bits .or .u64 224 (r / 4096) = 224 + r / 4096 := or_u64 4 _ _ (by omega) (by omega) (by omega) (by omega) (by omega) (by omega)
    go_enter Tryd.func14, Tryd.ntmps14
    go_wp2
    go_ret
    exact FIN.out _ _ HE.out rfl
  · have HE := hide (Lib.encodeRuneZ_four (r := r) (by omega) h1)
    have o3 : bits .or .u64 240 (r / 262144) = 240 + r / 262144 := or_u64 3 _ _ (by omega) (by omega) (by omega) (by omega) (by omega) (by omega)
    go_enter Tryd.func14, Tryd.ntmps14
    go_wp2
    go_ret
    exact FIN.out _ _ HE.out rfl
end Go.Proofs.YtokibffjabomhaaDoor
