/- Plain words on quoted runes: which of them are the literal, which the escape; that the escape is ASCII. And the tables of strconv.IsPrint, as a row lists them. -/
import Derived.Test.YtokibffjabomhaaDoorFQ
import Derived.PinnedBridge
import Derived.Lib.LaidU8
import Derived.Shelf.Strconv.Quoted
namespace Go.Proofs.YtokibffjabomhaaDoor
open Go.Shelf Go.RowKit

theorem tabsP {laid : List (String × DataW Unit)} {w : World} (hL : laidMet Tryd.prog laid w)
    (h16 : ("strconv.isPrint16", Pinned.isPrint16) ∈ laid) (hn16 : ("strconv.isNotPrint16", Pinned.isNotPrint16) ∈ laid) (h32 : ("strconv.isPrint32", Pinned.isPrint32) ∈ laid) (hn32 : ("strconv.isNotPrint32", Pinned.isNotPrint32) ∈ laid) :
    Lib.PrintTabsAt 2 3 4 5 Lib.goPrintTabs w :=
  printTabs_of_reads (ρ := Tryd.lays339_ren) { Tryd.lays339 with } ⟨by kernel_rfl, by kernel_rfl, by kernel_rfl, by kernel_rfl, by kernel_rfl, by kernel_rfl, by kernel_rfl, by kernel_rfl, by kernel_rfl, by kernel_rfl⟩
    (Pinned.isPrint16_eq ▸ Lib.laidMet.reads hL h16) (Pinned.isNotPrint16_eq ▸ Lib.laidMet.reads hL hn16) (Pinned.isPrint32_eq ▸ Lib.laidMet.reads hL h32) (Pinned.isNotPrint32_eq ▸ Lib.laidMet.reads hL hn32)

theorem printTabs_on {T : Lib.PrintTabs} {w w' : World} (h : Lib.PrintTabsAt 2 3 4 5 T w) (hb : Below w.heap.size w w') : Lib.PrintTabsAt 2 3 4 5 T w' := printTabs_below h hb
theorem tabsFrom {T : Lib.PrintTabs} {w w' : World} (h : Lib.PrintTabsAt 2 3 4 5 T w) {B : Nat} (hB : w.heap.size ≤ B) (hb : Below w.heap.size w w') : TabsFrom T B w' := fun _ h2 => printTabs_on h (hb.trans (h2.mono hB))

theorem escQ_ascii (T : Lib.PrintTabs) (R : Int) (h0 : 0 ≤ R) : ∀ x ∈ escQ T 39 true R, x < 128 := by
  have hd : ∀ d : Nat, d < 16 → Lib.hexDigit d < 128 := by
    intro d hd
    unfold Lib.hexDigit
    split <;> omega
  have hds : ∀ (r n : Nat), ∀ x ∈ Lib.hexDigits r n, x < 128 := by
    intro r n
    induction n with
    | zero => intro x h; cases h
    | succ n ih =>
      intro x h
      rcases List.mem_cons.1 h with rfl | h
      · exact hd _ (by omega)
      · exact ih x h
  intro x hx
  unfold escQ at hx
  by_cases c0 : R = 39 ∨ R = 92
  · rw [if_pos c0] at hx; simp at hx; omega
  rw [if_neg c0] at hx
  split at hx
  · rename_i h
    have h1 := h.2 rfl
    rw [Lib.encodeRuneZ_one h0 (by omega)] at hx
    simp at hx; omega
  split at hx
  · simp at hx; omega
  split at hx
  · simp at hx; omega
  split at hx
  · simp at hx; omega
  split at hx
  · simp at hx; omega
  split at hx
  · simp at hx; omega
  split at hx
  · simp at hx; omega
  split at hx
  · simp at hx; omega
  split at hx
  · have h1 := hd (R.toNat / 16) (by omega)
    have h2 := hd (R.toNat % 16) (by omega)
    simp at hx; omega
  split at hx
  · simp only [List.mem_cons] at hx
    rcases hx with rfl | rfl | hx
    · omega
    · omega
    · exact hds _ _ x hx
  · simp only [List.mem_cons] at hx
    rcases hx with rfl | rfl | hx
    · omega
    · omega
    · exact hds _ _ x hx

/-- The escape's runes are its bytes. -/
theorem qB_runes (T : Lib.PrintTabs) (c : Int) (h0 : 0 ≤ c) : Lib.runeCount ⟨(qB T true c).toArray⟩ = (qB T true c).length := by
  have hsz : (⟨(qB T true c).toArray⟩ : ByteArray).size = (qB T true c).length := by
    show (qB T true c).toArray.size = _
    simp
  rw [← hsz]
  refine Lib.runeCount_ascii _ fun j hj => ?_
  have hj2 : j < (qB T true c).length := by rw [← hsz]; exact hj
  have e : ((⟨(qB T true c).toArray⟩ : ByteArray)[j]'hj) = (qB T true c)[j] := rfl
  rw [e]
  have key : ∀ y ∈ qB T true c, y.toNat < 128 := by
    intro y hy
    unfold qB toB at hy
    obtain ⟨x, hx, rfl⟩ := List.mem_map.1 hy
    rw [UInt8.toNat_ofNat']
    have hb := qL_byte T true (zzR c) x hx
    have ha : x < 128 := by
      simp only [List.mem_cons, List.mem_append, List.not_mem_nil, or_false] at hx
      rcases hx with rfl | hx | rfl
      · omega
      · exact escQ_ascii T _ (zzR_bd h0).1 x hx
      · omega
    omega
  exact key _ (List.getElem_mem hj2)

/-- The literal: the rune itself between quotes. -/
def litB (c : Int) : List UInt8 := toB (39 :: (Lib.encodeRuneZ (zzR c) ++ [39]))
theorem lit_of {T : Lib.PrintTabs} {c : Int} (hp : Lib.isPrintR T (zzR c) = true) (h1 : zzR c ≠ 39) (h2 : zzR c ≠ 92) : qB T false c = litB c := by
  unfold qB litB
  have : escQ T 39 false (zzR c) = Lib.encodeRuneZ (zzR c) := by simp [escQ, h1, h2, hp]
  rw [this]
theorem esc_of {T : Lib.PrintTabs} {c : Int} (hp : Lib.isPrintR T (zzR c) = true → zzR c < 128) : qB T false c = qB T true c := by
  unfold qB
  have : escQ T 39 false (zzR c) = escQ T 39 true (zzR c) := by
    unfold escQ
    by_cases h : Lib.isPrintR T (zzR c) = true
    · have h1 := hp h
      simp [h, h1]
    · simp [h]
  rw [this]
set_option maxRecDepth 1000000 in
theorem print_bad : Lib.isPrintR Lib.goPrintTabs 65533 = true := by kernel_rfl
theorem plain_bad {c : Int} (h : zzR c ≠ c) : qB Lib.goPrintTabs false c = litB c := by
  have e : zzR c = 65533 := by
    unfold zzR at h ⊢
    split
    · rename_i h1; rw [if_pos h1] at h; exact absurd rfl h
    · rfl
  exact lit_of (by rw [e]; exact print_bad) (by omega) (by omega)
theorem print_latin {T : Lib.PrintTabs} {R : Int} (h : R ≤ 255) : Lib.isPrintR T R = Lib.isPrintLatin R := by simp [Lib.isPrintR, h]
theorem plain_low {T : Lib.PrintTabs} {c : Int} (hz : zzR c = c) (h : c ≤ 159 ∨ c = 160 ∨ c = 173) : qB T false c = qB T true c :=
  esc_of fun hp => by
    rw [hz] at hp ⊢
    rw [print_latin (by omega)] at hp
    simp [Lib.isPrintLatin] at hp
    omega
theorem plain_latin {T : Lib.PrintTabs} {c : Int} (hz : zzR c = c) (h : 159 < c) (h1 : c ≠ 160) (h2 : c ≠ 173) (h3 : c ≤ 255) : qB T false c = litB c :=
  lit_of (by
    rw [hz, print_latin h3]
    simp [Lib.isPrintLatin]
    omega) (by omega) (by omega)
theorem plain_high {T : Lib.PrintTabs} {c : Int} (hz : zzR c = c) (h : 255 < c) : qB T false c = qB T true c ∨ qB T false c = litB c := by
  by_cases hp : Lib.isPrintR T (zzR c) = true
  · exact .inr (lit_of hp (by omega) (by omega))
  · exact .inl (esc_of fun h => absurd h hp)
end Go.Proofs.YtokibffjabomhaaDoor
