/- formatter.fmtQ at ASCII strings, the walk. Conditions: as for the text it rests on. -/
import Derived.Test.YtibndpnoeoajaaaDoorQA3
set_option linter.unusedSimpArgs false
namespace Go.Proofs.YtibndpnoeoajaaaDoor
open Go.RowKit

theorem cutTo_le (pp : Bool) (prec : Int) (s : ByteArray) : (cutTo pp prec s).size ≤ s.size := by
  unfold cutTo
  split
  · simp [ByteArray.size_extract]; omega
  · exact Nat.le_refl _
theorem cutTo_asc (pp : Bool) (prec : Int) (s : ByteArray) (h : Asc s.data.toList) : Asc (cutTo pp prec s).data.toList := by
  unfold cutTo
  split
  · intro x hx
    refine h x ?_
    simp at hx
    exact List.mem_of_mem_take hx
  · exact h
def tick (t : ByteArray) : ByteArray := (({ data := #[96] } : ByteArray) ++ t) ++ ({ data := #[96] } : ByteArray)
theorem tick_list (t : ByteArray) : (tick t).data.toList = 96 :: (t.data.toList ++ [96]) := by simp [tick]
theorem tick_size (t : ByteArray) : (tick t).size = t.size + 2 := by rw [← bsz, tick_list, ← bsz]; simp

section
variable (fb pb B0 : Nat) (F : Array Value) (wp mi z : Bool) (wd : Int) (w : World)
theorem tick_pad (t : ByteArray) (ht : t.size ≤ 1048576) (ha : Asc t.data.toList) (w1 : World) (hb1 : Below B0 w w1) (hfm : w1.heap[fb]? = some (.cells F 35 (0, 0))) (hbox : w1.heap[pb]? = some (.cells #[.slice none 0 0] 28 (0, 0))) (hp : F[0]? = some (.pointer (some ⟨pb, 0, none⟩))) (h1 : F[1]? = some (.bool wp)) (h3 : F[3]? = some (.bool mi)) (h7 : F[7]? = some (.bool z)) (h13 : F[13]? = some (.int .i64 wd))
    (hM : w1.cell? ⟨0, 0, none⟩ = some (.int .i64 2147483647)) (h0 : 0 < B0) (hbp : B0 ≤ pb) (hw0 : 0 ≤ wd) (hw1 : wd ≤ 65536) :
    Calls Tryd.prog 13 #[.pointer (some ⟨fb, 0, none⟩), .string (tick t)] w1 (Out B0 pb mi z (room wp wd (96 :: (t.data.toList ++ [96])).length) (96 :: (t.data.toList ++ [96])) w) := by
  have hplt : pb < w1.heap.size := (Array.getElem?_eq_some_iff.1 hbox).1
  have fm1 : Fm w1 fb pb w1.heap.size 0 F [] := ⟨hfm, hp, ⟨none, 0, hbox, World.ownsRow_nil _ _ _ _⟩, Nat.le_refl _⟩
  have hr : Lib.runeCount (tick t) = (96 :: (t.data.toList ++ [96])).length := by
    rw [← tick_list, bsz]
    refine Lib.runeCount_ascii _ fun j hj => Asc.at (s := tick t) ?_ j hj
    rw [tick_list]
    intro x hx
    simp only [List.mem_cons, List.mem_append, List.not_mem_nil, or_false] at hx
    rcases hx with rfl | h | rfl
    · decide
    · exact ha x h
    · decide
  refine (padString_any fb pb w1.heap.size 0 F [] (tick t) wp mi z wd w1 fm1 h1 h3 h7 h13 hM (by omega) (by omega) (by omega) (by rw [tick_size]; omega) (by omega) hw1 (by simp)).mono ?_
  rintro e w2 ⟨he, fm2, hs2⟩
  have hsz : (tick t).size = (96 :: (t.data.toList ++ [96])).length := by rw [← tick_list, bsz]
  rw [hr, List.nil_append, Nat.zero_add, tick_list, ← fieldB_bt, hsz] at fm2
  obtain ⟨A2, c2, hbx, hox⟩ := fm2.holds
  exact ⟨he, A2, c2, hbx, SlIn.of_own hox, hb1.trans (hs2.below (by omega) hbp)⟩

set_option maxHeartbeats 4000000 in
theorem fmtQ_any (pp plus sharp : Bool) (prec : Int) (s : ByteArray) (hs : s.size ≤ 1048576) (ha : Asc s.data.toList) (hF : F.size = 83) (hfm : w.heap[fb]? = some (.cells F 35 (0, 0))) (hbox : w.heap[pb]? = some (.cells #[.slice none 0 0] 28 (0, 0))) (hne : ¬ pb = fb) (hp : F[0]? = some (.pointer (some ⟨pb, 0, none⟩))) (h1 : F[1]? = some (.bool wp)) (h2 : F[2]? = some (.bool pp)) (h3 : F[3]? = some (.bool mi)) (h4 : F[4]? = some (.bool plus)) (h5 : F[5]? = some (.bool sharp)) (h7 : F[7]? = some (.bool z)) (h13 : F[13]? = some (.int .i64 wd)) (h14 : F[14]? = some (.int .i64 prec))
    (hM : w.cell? ⟨0, 0, none⟩ = some (.int .i64 2147483647)) (h0 : 0 < B0) (hbf : B0 ≤ fb) (hbp : B0 ≤ pb) (hw0 : 0 ≤ wd) (hw1 : wd ≤ 65536) (hr0 : 0 ≤ prec) (hr1 : prec ≤ 9223372036854775807) :
    Calls Tryd.prog 9 #[.pointer (some ⟨fb, 0, none⟩), .string s] w (Out B0 pb mi z (room wp wd (quoted sharp (cutTo pp prec s).data.toList).length) (quoted sharp (cutTo pp prec s).data.toList) w) := by
  have cell : ∀ {i : Nat} {v : Value}, F[i]? = some v → w.cell? ⟨fb, i, none⟩ = some v := fun hv => by rw [cell_of_row w fb _ F _ (0, 0) hfm]; exact hv
  have cT := truncate_any fb pp prec s w (cell h2) (cell h14) hr0 hr1 ha
  have hts := cutTo_le pp prec s
  have hta := cutTo_asc pp prec s ha
  generalize cutTo pp prec s = t at cT hts hta ⊢
  have hflt : fb < w.heap.size := (Array.getElem?_eq_some_iff.1 hfm).1
  have hplt : pb < w.heap.size := (Array.getElem?_eq_some_iff.1 hbox).1
  have HT := hide cT
  clear cell cT
  have hts2 : t.size ≤ 1048576 := by omega
  have hlen : t.data.toList.length ≤ 1048576 := by rw [bsz]; exact hts2
  have HB := hide hlen
  have key : ∀ w1, Below w.heap.size w w1 → w1.cell? ⟨fb, 5, none⟩ = some (.bool sharp) ∧ w1.cell? ⟨fb, 4, none⟩ = some (.bool plus) ∧
      (∀ w2, Calls Tryd.prog 12 #[.string t] w2 fun e w' => e = .returned (.bool (canB t.data.toList)) ∧ w2 = w') ∧
      Calls Tryd.prog 13 #[.pointer (some ⟨fb, 0, none⟩), .string (tick t)] w1 (Out B0 pb mi z (room wp wd (96 :: (t.data.toList ++ [96])).length) (96 :: (t.data.toList ++ [96])) w) ∧
      (∀ asc, Calls Tryd.prog 23 #[.slice (some ⟨fb, 15, none⟩) 0 68, .string t, .int .u8 34, .bool asc, .bool false] w1 fun e w' => ∃ v, e = .returned v ∧ Calls Tryd.prog 14 #[.pointer (some ⟨fb, 0, none⟩), v] w' (Out B0 pb mi z (room wp wd (toB (quoteL t.data.toList)).length) (toB (quoteL t.data.toList)) w)) := by
    intro w1 hb
    have fm1 : w1.heap[fb]? = some (.cells F 35 (0, 0)) := (hb.block fb hflt).trans hfm
    have bx1 : w1.heap[pb]? = some (.cells #[.slice none 0 0] 28 (0, 0)) := (hb.block pb hplt).trans hbox
    have hM1 : w1.cell? ⟨0, 0, none⟩ = some (.int .i64 2147483647) := (hb.cell (p := ⟨0, 0, none⟩) (Nat.lt_of_lt_of_le h0 (by omega))).trans hM
    have cell : ∀ {i : Nat} {v : Value}, F[i]? = some v → w1.cell? ⟨fb, i, none⟩ = some v := fun hv => by rw [cell_of_row w1 fb _ F _ (0, 0) fm1]; exact hv
    have hbB : Below B0 w w1 := hb.mono (by omega)
    refine ⟨cell h5, cell h4, fun w2 => canBack_any t hts2 hta w2, tick_pad fb pb B0 F wp mi z wd w t hts2 hta w1 hbB fm1 bx1 hp h1 h3 h7 h13 hM1 h0 hbp hw0 hw1, fun asc => ?_⟩
    refine (appendQuoted_any asc fb F hF t hts2 hta w1 fm1).mono ?_
    rintro e w2 ⟨v, off, cap, rfl, hoff, hE⟩
    refine ⟨v, rfl, (quoted_pad fb pb B0 F wp mi z wd w1 t.data.toList hlen hta bx1 hne hp h1 h3 h7 h13 hM1 h0 hbf hbp hw0 hw1 off cap hoff w2 v hE).mono ?_⟩
    rintro e w3 ⟨he, A, c, x1, x2, x3⟩
    exact ⟨he, A, c, x1, x2, hbB.trans x3⟩
  have HK := hide key
  clear key hts hta hfm hbox hp h1 h2 h3 h4 h5 h7 h13 h14 hM ha hlen
  obtain ⟨o, ho⟩ : ∃ o, quoted sharp t.data.toList = o := ⟨_, rfl⟩
  rw [ho]
  unfold quoted at ho
  have HO := hide ho
  clear ho
  cases sharp
  · have HO2 : Hid (toB (quoteL t.data.toList) = o) := by have := HO.out; simpa [Hid] using this
    clear HO
    cases plus
    all_goals (
      go_enter Tryd.func9, Tryd.ntmps9
      go_wp2_with fail
      refine HT.out.mono ?_
      rintro e w1 ⟨rfl, hb1⟩
      obtain ⟨c5, c4, -, -, cA⟩ := HK.out w1 hb1
      have CA := hide cA
      clear cA hb1
      go_wp2_with (first | (go_at_call 16; go_in) | (go_at_call 15; go_in) | (go_at_call 23; refine (CA.out _).mono ?_; rintro e w2 ⟨v2, rfl, cP⟩) | (go_at_call 14; refine cP.mono ?_; rintro e w3 ⟨rfl, hO⟩))
      go_end0
      refine ⟨rfl, ?_⟩
      rw [← HO2.out]
      exact hO)
  · cases hcb : canB t.data.toList
    · have HO2 : Hid (toB (quoteL t.data.toList) = o) := by have := HO.out; rw [hcb] at this; simpa [Hid] using this
      rw [hcb] at HK
      clear HO hcb
      cases plus
      all_goals (
        go_enter Tryd.func9, Tryd.ntmps9
        go_wp2_with fail
        refine HT.out.mono ?_
        rintro e w1 ⟨rfl, hb1⟩
        obtain ⟨c5, c4, cB, -, cA⟩ := HK.out w1 hb1
        have CA := hide cA
        have CB := hide cB
        clear cA cB hb1
        go_wp2_with (first | (go_at_call 12; refine (CB.out _).mono ?_; rintro e w' ⟨rfl, rfl⟩) | (go_at_call 16; go_in) | (go_at_call 15; go_in) | (go_at_call 23; refine (CA.out _).mono ?_; rintro e w2 ⟨v2, rfl, cP⟩) | (go_at_call 14; refine cP.mono ?_; rintro e w3 ⟨rfl, hO⟩))
        go_end0
        refine ⟨rfl, ?_⟩
        rw [← HO2.out]
        exact hO)
    · have HO2 : Hid (96 :: (t.data.toList ++ [96]) = o) := by have := HO.out; rw [hcb] at this; simpa [Hid] using this
      rw [hcb] at HK
      clear HO hcb
      go_enter Tryd.func9, Tryd.ntmps9
      go_wp2_with fail
      refine HT.out.mono ?_
      rintro e w1 ⟨rfl, hb1⟩
      obtain ⟨c5, c4, cB, cP, -⟩ := HK.out w1 hb1
      have CB := hide cB
      have CP := hide cP
      clear cP cB hb1
      go_wp2_with (first | (go_at_call 12; refine (CB.out _).mono ?_; rintro e w' ⟨rfl, rfl⟩) | (go_at_call 13; refine CP.out.mono ?_; rintro e w3 ⟨rfl, hO⟩))
      go_end0
      refine ⟨rfl, ?_⟩
      rw [← HO2.out]
      exact hO
end
end Go.Proofs.YtibndpnoeoajaaaDoor
