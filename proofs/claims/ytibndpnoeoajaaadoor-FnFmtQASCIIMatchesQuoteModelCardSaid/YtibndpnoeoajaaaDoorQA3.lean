/- formatter.fmtQ at ASCII strings by a contract: behind the call the buffer, empty ahead of it, holds the quoted text in its field. Conditions: an own formatter and buffer; strings of at most 2^20 bytes, a width of at most 2^16. -/
import Derived.Test.YtibndpnoeoajaaaDoorQA2
import Derived.Test.YtibndpnoeoajaaaDoorPadStrS
set_option linter.unusedSimpArgs false
namespace Go.Proofs.YtibndpnoeoajaaaDoor
open Go.RowKit

/-- The bytes of numbers. -/
def toB (l : List Int) : List UInt8 := l.map fun x => UInt8.ofNat x.toNat
theorem toB_bt {l : List Int} (h : ∀ x ∈ l, 0 ≤ x ∧ x < 128) : (toB l).map bt = Lib.intCells l := by
  unfold toB Lib.intCells
  rw [List.map_map]
  refine List.map_congr_left fun x hx => ?_
  have hb := h x hx
  simp only [Function.comp, bt]
  congr 1
  rw [UInt8.toNat_ofNat']
  omega
theorem toB_len (l : List Int) : (toB l).length = l.length := by simp [toB]
theorem toB_asc {l : List Int} (h : ∀ x ∈ l, 0 ≤ x ∧ x < 128) : Asc (toB l) := by
  intro x hx
  obtain ⟨y, hy, rfl⟩ := List.mem_map.1 hx
  have hb := h y hy
  rw [UInt8.toNat_ofNat']
  omega
/-- One byte escaped, as the law writes it. -/
def zE (n : Nat) : List Int :=
  if n = 34 ∨ n = 92 then [92, n] else if 32 ≤ n ∧ n ≤ 126 then [(n : Int)] else if n = 7 then [92, 97] else if n = 8 then [92, 98] else if n = 9 then [92, 116] else if n = 10 then [92, 110]
  else if n = 11 then [92, 118] else if n = 12 then [92, 102] else if n = 13 then [92, 114] else [92, 120, Lib.hexDigit (n / 16), Lib.hexDigit (n % 16)]
theorem zE_tab : (List.range 128).all (fun n => escQ T0 34 true (n : Int) == zE n && (zE n).all fun x => decide (0 ≤ x) && decide (x < 128)) = true := by decide
theorem zE_eq (n : Nat) (h : n < 128) : escQ T0 34 true (n : Int) = zE n ∧ ∀ x ∈ zE n, 0 ≤ x ∧ x < 128 := by
  have := List.all_eq_true.1 zE_tab n (List.mem_range.2 h)
  simp only [Bool.and_eq_true, beq_iff_eq, List.all_eq_true, decide_eq_true_eq] at this
  exact this
theorem escB_eq {x : UInt8} (h : x.toNat < 128) : escB x = zE x.toNat := (zE_eq x.toNat h).1
theorem escL_bd : ∀ l : List UInt8, Asc l → ∀ x ∈ escL l, 0 ≤ x ∧ x < 128
  | [], _, x, h => by simp [escL] at h
  | y :: l, ha, x, h => by
    rw [escL_cons] at h
    have hy : y.toNat < 128 := ha y (by simp)
    rcases List.mem_append.1 h with h | h
    · rw [escB_eq hy] at h
      exact (zE_eq y.toNat hy).2 x h
    · exact escL_bd l (fun z hz => ha z (by simp [hz])) x h
theorem quoteL_bd {l : List UInt8} (ha : Asc l) : ∀ x ∈ quoteL l, 0 ≤ x ∧ x < 128 := by
  intro x hx
  simp only [quoteL, List.mem_cons, List.mem_append, List.not_mem_nil, or_false] at hx
  rcases hx with rfl | h | rfl
  · omega
  · exact escL_bd l ha x h
  · omega
/-- The quoted text. -/
def quoted (sharp : Bool) (l : List UInt8) : List UInt8 := if sharp && canB l then 96 :: (l ++ [96]) else toB (quoteL l)
theorem rc_asc {l : List UInt8} (h : Asc l) : Lib.runeCount ⟨l.toArray⟩ = l.length := by
  rw [Lib.runeCount_ascii ⟨l.toArray⟩ fun j hj => Asc.at (s := ⟨l.toArray⟩) (by simpa using h) j hj]
  show l.toArray.size = _
  simp
theorem quoteL_len {l : List UInt8} (ha : Asc l) : (quoteL l).length ≤ 4 * l.length + 2 := by
  have := (escL_len l ha).2
  simp only [quoteL, List.length_cons, List.length_append, List.length_nil]
  omega

/-- A text in its field, as bytes. -/
def fieldB (mi z : Bool) (k : Nat) (l : List UInt8) : List UInt8 := if mi then l ++ List.replicate k (pby z) else List.replicate k (pby z) ++ l
theorem fieldB_bt (mi z : Bool) (k : Nat) (l : List UInt8) : (fieldB mi z k l).map bt = inField mi z k (l.map bt) := by
  cases mi <;> simp [fieldB, inField, padL]
theorem fieldB_len (mi z : Bool) (k : Nat) (l : List UInt8) : (fieldB mi z k l).length = k + l.length := by
  cases mi <;> simp [fieldB] <;> omega

theorem EBuf.slin {W : World} {T e : TypeId} {b off cap : Nat} {F : Array Value} {v : Value} {ks : List Value} {w : World} (h : EBuf W T e b off cap F v ks w) :
    ∃ A c, v = .slice A ks.length c ∧ SlIn w w.heap.size A ks.length c ks ∧ (A = none ∨ ∃ bb oo, A = some ⟨bb, oo, none⟩ ∧ (bb = b ∨ W.heap.size ≤ bb)) := by
  obtain ⟨F', h1, h2, h3, h4, h5⟩ := h.row
  have htop := h.top
  rcases h5 with ⟨rfl, hle, hc⟩ | ⟨_, ho⟩
  · refine ⟨_, _, rfl, ⟨fun e => (by cases e), hle, htop, rfl, fun j u hu => ⟨b, off, rfl, (Array.getElem?_eq_some_iff.1 h1).1, ?_⟩⟩, .inr ⟨b, off, rfl, .inl rfl⟩⟩
    rw [cell_of_row w b (off + j) F' T (0, 0) h1, hc j (List.getElem?_eq_some_iff.1 hu).1]
    exact hu
  · rcases ho.2 with ⟨h', h0⟩ | ⟨g, cap', cur, fz, h', hb, hg, hfz, hnc, hcm, hcs, htake⟩
    · subst h'
      have : ks = [] := List.eq_nil_of_length_eq_zero h0
      subst this
      exact ⟨none, 0, rfl, SlIn.nilSlice w _, .inl rfl⟩
    · refine ⟨_, cap', h', ⟨fun e => (by cases e), hnc, hcm, rfl, fun j u hu => ⟨g, 0, rfl, (Array.getElem?_eq_some_iff.1 hg).1, ?_⟩⟩, .inr ⟨g, 0, rfl, .inr hb⟩⟩
      have := ho.cells (g := g) (by rw [h']; rfl) j u hu
      simpa [Addr.add_lit] using this

/-- The box holds the text in its field. -/
def Out (B0 pb : Nat) (mi z : Bool) (k : Nat) (Q : List UInt8) (w : World) (e : Ending) (w' : World) : Prop :=
  e = .returned (.tuple #[]) ∧ ∃ A c, w'.heap[pb]? = some (.cells #[.slice A (k + Q.length) c] 28 (0, 0)) ∧ SlIn w' w'.heap.size A (k + Q.length) c ((fieldB mi z k Q).map bt) ∧ Below B0 w w'

section
variable (fb pb B0 : Nat) (F : Array Value) (wp mi z : Bool) (wd : Int) (w : World)
theorem quoted_pad (t : List UInt8) (ht : t.length ≤ 1048576) (ha : Asc t) (hbox : w.heap[pb]? = some (.cells #[.slice none 0 0] 28 (0, 0))) (hne : ¬ pb = fb) (hp : F[0]? = some (.pointer (some ⟨pb, 0, none⟩))) (h1 : F[1]? = some (.bool wp)) (h3 : F[3]? = some (.bool mi)) (h7 : F[7]? = some (.bool z)) (h13 : F[13]? = some (.int .i64 wd))
    (hM : w.cell? ⟨0, 0, none⟩ = some (.int .i64 2147483647)) (h0 : 0 < B0) (hbf : B0 ≤ fb) (hbp : B0 ≤ pb) (hw0 : 0 ≤ wd) (hw1 : wd ≤ 65536)
    (off cap : Nat) (hoff : 15 ≤ off) (w1 : World) (v1 : Value) (hE : EBuf w 35 5 fb off cap F v1 (Lib.intCells (quoteL t)) w1) :
    Calls Tryd.prog 14 #[.pointer (some ⟨fb, 0, none⟩), v1] w1 (Out B0 pb mi z (room wp wd (toB (quoteL t)).length) (toB (quoteL t)) w) := by
  obtain ⟨F', hf', hsz, hoc, hlo, _⟩ := hE.row
  have hb1 := hE.below hbf
  have hplt : pb < w.heap.size := (Array.getElem?_eq_some_iff.1 hbox).1
  have hbox1 : w1.heap[pb]? = some (.cells #[.slice none 0 0] 28 (0, 0)) := (hE.block pb hplt hne).trans hbox
  have hs1 := hE.size
  obtain ⟨A, c, rfl, hin, hA⟩ := hE.slin
  have e1 : (toB (quoteL t)).map bt = Lib.intCells (quoteL t) := toB_bt (quoteL_bd ha)
  have el : (Lib.intCells (quoteL t)).length = (toB (quoteL t)).length := by rw [← e1, List.length_map]
  have hql := quoteL_len ha
  rw [el] at hin ⊢
  rw [← e1] at hin
  have hq : (toB (quoteL t)).length ≤ 5242880 := by rw [toB_len]; omega
  have hr : Lib.runeCount ⟨(toB (quoteL t)).toArray⟩ = (toB (quoteL t)).length := rc_asc (toB_asc (quoteL_bd ha))
  have fm1 : Fm w1 fb pb w1.heap.size 0 F' [] := ⟨hf', (hlo 0 (by omega)).trans hp, ⟨none, 0, hbox1, World.ownsRow_nil _ _ _ _⟩, Nat.le_refl _⟩
  generalize toB (quoteL t) = Q at hin hq hr ⊢
  refine (pad_any fb pb w1.heap.size 0 F' [] A Q.length c Q wp mi z wd w1 fm1 ((hlo 1 (by omega)).trans h1) ((hlo 3 (by omega)).trans h3) ((hlo 7 (by omega)).trans h7) ((hlo 13 (by omega)).trans h13)
    ((hb1.cell (p := ⟨0, 0, none⟩) h0).trans hM) (by omega) (by omega) (by omega) (fun w' hs hfm => ?_) (hA.imp id fun ⟨b, o, h, _⟩ => ⟨b, o, h⟩) hq (by omega) hw1 (by simp)).mono ?_
  · refine SlIn.mono (B := w1.heap.size) ⟨hin.isNil, hin.le, hin.top, hin.len, fun j u hu => ?_⟩ hs.size
    obtain ⟨b, o, hAe, hlt, hc⟩ := hin.cells j u hu
    refine ⟨b, o, hAe, hlt, (hs.cell (p := ⟨b, o + j, none⟩) hlt ?_).trans hc⟩
    rcases hA with h | ⟨bb, oo, h, hbb⟩
    · rw [h] at hAe; cases hAe
    · rw [h] at hAe
      simp only [Option.some.injEq, Addr.mk.injEq, and_true] at hAe
      obtain ⟨rfl, rfl⟩ := hAe
      rcases hbb with rfl | hbb
      · exact fun e => hne e.symm
      · show ¬ bb = pb
        omega
  · rintro e w2 ⟨he, fm2, hs2⟩
    rw [hr, List.nil_append, Nat.zero_add, ← fieldB_bt] at fm2
    obtain ⟨A2, c2, hbx, hox⟩ := fm2.holds
    exact ⟨he, A2, c2, hbx, SlIn.of_own hox, hb1.trans (hs2.below (by omega) hbp)⟩
end
end Go.Proofs.YtibndpnoeoajaaaDoor
