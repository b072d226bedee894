/- The law FnWriteRuneDecodesBack walked: the call returns true and writes nothing that was there. Its conditions: none beyond the arguments' types. -/
import Derived.Test.YtbdniedaofanpaaDoorProg
import Derived.Test.YtbdniedaofanpaaDoorBase
import Derived.Test.YtbdniedaofanpaaDoorRows
import Derived.Handy
import Derived.Outline
import Derived.WalkLawsBesides
import Derived.WalkSpells
import Derived.Deep.QuietTactic
import Derived.BigQuiet
import Derived.RegionTactic
import Derived.ChangeAlike
import Derived.Test.YtbdniedaofanpaaDoorLaid
import Derived.Test.YtbdniedaofanpaaDoorDecode
import Derived.Test.YtbdniedaofanpaaDoorClone
import Derived.Test.YtbdniedaofanpaaDoorEq
import Derived.MakeChecks
namespace Go.Proofs.YtbdniedaofanpaaDoor.fnWriteRuneDecodesBack
open Go.RowKit Go.Proofs.YtbdniedaofanpaaDoor
theorem maxCell {w : World} (hL : laidMetH Tryd.prog Rows.fnWriteRuneDecodesBackRow.laid w) : w.cell? ⟨0, 0, none⟩ = some (.int .i64 2147483647) := by
  rw [MakeChecks.laidMetH_plain _ _ _ (by kernel_rfl)] at hL
  exact laid_int (t := 3) hL (n := "github.com/d5/tengo/v2.MaxStringLen") (by simp [Rows.fnWriteRuneDecodesBackRow, Rows.laid_github_com_d5_tengo_v2_MaxStringLen]) (by kernel_rfl) (by kernel_rfl) Tryd.underlying3

/-- What writing the runes l one behind the other appends. -/
def catR (l : List Int) : List Value := l.flatMap encV
/-- How long that is behind the first k. -/
def tot (l : List Int) (k : Nat) : Nat := (catR (l.take k)).length

theorem tot_zero (l : List Int) : tot l 0 = 0 := by simp [tot, catR]
theorem cat_succ {l : List Int} {k : Nat} {r : Int} (h : l[k]? = some r) : catR (l.take k) ++ encV r = catR (l.take (k + 1)) := by
  rw [List.take_add_one, h]; simp [catR, List.flatMap_append]
theorem tot_succ {l : List Int} {k : Nat} {r : Int} (h : l[k]? = some r) : tot l (k + 1) = tot l k + (enc r).length := by
  unfold tot
  rw [← cat_succ h, List.length_append, encV_len]
theorem tot_le (l : List Int) : ∀ k, k ≤ l.length → tot l k ≤ 4 * k
  | 0, _ => by rw [tot_zero]; omega
  | k + 1, hk => by
    have hlt : k < l.length := by omega
    have := tot_le l k (by omega)
    rw [tot_succ (List.getElem?_eq_getElem hlt)]
    have := (enc_len l[k]).2
    omega
theorem tot_mono (l : List Int) {k m : Nat} (hkm : k ≤ m) : m ≤ l.length → tot l k ≤ tot l m := by
  induction hkm with
  | refl => intro _; exact Nat.le_refl _
  | step _ ih =>
    intro hm
    rw [tot_succ (List.getElem?_eq_getElem (by omega))]
    have := ih (by omega)
    omega
theorem tot_lt {l : List Int} {k : Nat} (hk : k < l.length) : tot l k < tot l l.length := by
  have h1 := tot_succ (List.getElem?_eq_getElem hk)
  have h2 := (enc_len l[k]).1
  have h3 := tot_mono l (show k + 1 ≤ l.length by omega) (Nat.le_refl _)
  omega
theorem drop_cat {l : List Int} {k n : Nat} {r : Int} {xs : List Value} (hx : xs.length = n) (h : l[k]? = some r) : (xs ++ catR l).drop (n + tot l k) = encV r ++ catR (l.drop (k + 1)) := by
  have hk : k < l.length := (List.getElem?_eq_some_iff.1 h).1
  have e : catR l = catR (l.take k) ++ (encV r ++ catR (l.drop (k + 1))) := by
    have : l = l.take k ++ (r :: l.drop (k + 1)) := by
      have h2 := List.drop_eq_getElem_cons hk
      rw [(List.getElem?_eq_some_iff.1 h).2] at h2
      rw [← h2, List.take_append_drop]
    conv => lhs; rw [this]
    simp [catR, List.flatMap_append]
  rw [e, ← List.append_assoc]
  exact List.drop_left' (by rw [List.length_append, hx]; rfl)
set_option linter.unusedVariables false in
set_option maxRecDepth 100000 in
set_option maxHeartbeats 4000000 in
theorem walk (a0 : Option Addr) (len0 cap0 : Nat) (z0 : List UInt8) (a1 : Option Addr) (len1 cap1 : Nat) (z1 : List Int) (w : World) (w0 : SlIn w w.heap.size a0 len0 cap0 (z0.map bt)) (w1 : SlIn w w.heap.size a1 len1 cap1 (z1.map (Value.int .i32))) (wf1 : ∀ n ∈ z1, (Lit.int .i32 n).wf = true) (hL : laidMetH Tryd.prog Rows.fnWriteRuneDecodesBackRow.laid w) :
    Calls Tryd.prog 6 #[.slice a0 len0 cap0, .slice a1 len1 cap1] w fun e w' => e = .returned (.bool true) ∧ Below w.heap.size w w' := by
  have t0 := w0.top
  have l0 := w0.le
  have t1 := w1.top
  have l1 := w1.le
  unfold maxLen at t0 t1
  have HM := hide (maxCell hL)
  have S0 := hide w0
  have S1 := hide w1
  have HF := hide wf1
  have HZ1 : Hid (z1.length = len1) := by have := w1.len; rw [List.length_map] at this; exact this
  have HP : Hid (0 < w.heap.size) := World.block_lt_of_cell? w _ HM.out
  clear hL w0 w1 wf1
  by_cases h : len0 + len1 ≤ 1048576
  · by_cases h0 : len0 ≤ 524288
    · by_cases h1 : len1 ≤ 65536
      · go_enter Tryd.func6, Tryd.ntmps6
        go_wp2_with (go_at_call 16; go_in)
        go_loop [5] (fun ix => ∃ k : Nat, k ≤ len1 ∧ ix = .int .i64 k ∧ Hid (∀ (j : Nat) (x : Int), j < k → z1[j]? = some x → 0 ≤ x)) (fun ix => len1 - (intOf ix).toNat)
        case atStart => exact ⟨0, Nat.zero_le _, rfl, fun _ _ hj => by omega⟩
        case round =>
          obtain ⟨k, hk, rfl, HNk⟩ := hrel
          by_cases hlt : k < len1
          · obtain ⟨b, off, x, rfl, hb, hx, hc⟩ := S1.out.num hlt
            have HX := hide hx
            clear hx
            by_cases hneg : x < 0
            · go_wp2
              go_ret
              exact ⟨rfl, Below.refl _ _⟩
            · go_wp2
              go_round
              case rel => exact ⟨k + 1, by omega, by go_num, fun j y hj hy => by
                by_cases e : j = k
                · subst e
                  rw [HX.out] at hy
                  obtain rfl := Option.some.inj hy
                  omega
                · exact HNk.out j y (by omega) hy⟩
              case measure => simp [intOf]; omega
          · have HN : Hid (∀ (j : Nat) (x : Int), z1[j]? = some x → 0 ≤ x ∧ x ≤ 2147483647) := fun j x hx => by
              have hj : j < z1.length := (List.getElem?_eq_some_iff.1 hx).1
              have hb := bounds_i32 (HF.out x (List.mem_of_getElem? hx))
              exact ⟨HNk.out j x (by have := HZ1.out; omega) hx, hb.2⟩
            clear HNk
            go_wp2_with fail
            refine (clone_any a0 len0 cap0 z0 w S0.out (by omega)).mono ?_
            rintro e w1 ⟨A1, c1, rfl, ho1, hb1⟩
            have O1 := hide (SlIn.of_own ho1)
            have B1 := hide hb1
            have M1 := hide (cellOn HM.out hb1 HP.out)
            have P1 : Hid (0 < w1.heap.size) := Nat.lt_of_lt_of_le HP.out hb1.size
            have R1 := hide ((S1.out.below hb1 (Nat.le_refl _)).mono hb1.size)
            clear ho1 hb1
            go_wp2_with fail
            refine (clone_any A1 len0 c1 z0 w1 O1.out (by omega)).mono ?_
            rintro e w2 ⟨A2, c2, rfl, ho2, hb2⟩
            have O2 : Hid (w2.ownsRow w1.heap.size 5 1 (.slice A2 (len0 + tot z1 0) c2) (len0 + tot z1 0) (z0.map bt ++ catR (z1.take 0))) := by
              show w2.ownsRow _ _ _ _ _ _
              rw [tot_zero]
              simpa [catR] using ho2
            have B2 := hide hb2
            have HT0 := hide (tot_zero z1)
            clear ho2 hb2
            go_wp2_with fail
            go_loopw [6, 7] (fun v ix wr => ∃ k : Nat, k ≤ len1 ∧ ix = .int .i64 k ∧ ∃ A c, v = .slice A (len0 + tot z1 k) c ∧ Hid (wr.ownsRow w1.heap.size 5 1 (.slice A (len0 + tot z1 k) c) (len0 + tot z1 k) (z0.map bt ++ catR (z1.take k))) ∧ Hid (Below w1.heap.size w1 wr)) (fun _ ix _ => len1 - (intOf ix).toNat)
            case atStart => exact ⟨0, Nat.zero_le _, rfl, A2, c2, by rw [HT0.out]; rfl, O2, B2⟩
            case round =>
              obtain ⟨k, hk, rfl, A, c, rfl, HO, HB⟩ := hrel
              clear O2 B2 HT0
              have htl := tot_le z1 k (by have := HZ1.out; omega)
              by_cases hlt2 : k < len1
              · obtain ⟨b, off, x, rfl, hb, hx, hc⟩ := R1.out.num hlt2
                have hcell : wr.cell? ⟨b, off + k, none⟩ = some (.int .i32 x) := (HB.out.cell hb).trans hc
                have HX := hide hx
                obtain ⟨x0, x1⟩ := HN.out k x hx
                clear hc hx
                go_wp2_with fail
                refine (zzWriteRune_any w1.heap.size A _ c _ x wr HO.out HB.out.size (cellOn M1.out HB.out P1.out) (by omega) (by omega) x1).mono ?_
                rintro e w4 ⟨A4, c4, rfl, ho4, hg4⟩
                have HT := hide (tot_succ HX.out)
                rw [List.append_assoc, cat_succ HX.out, Nat.add_assoc, ← HT.out] at ho4
                have HO4 := hide ho4
                have HB4 := hide (HB.out.grown hg4 HB.out.size (fun k hk => (HO.out.lt k hk).1))
                clear ho4 hg4
                rw [Nat.add_assoc, ← HT.out]
                go_wp2
                go_roundw
                case rel => exact ⟨k + 1, by omega, by go_num, A4, c4, rfl, HO4, HB4⟩
                case measure => simp [intOf]; omega
              · have hkn : k = len1 := by omega
                subst hkn
                have HZA : Hid (z1.take k = z1) := List.take_of_length_le (by rw [HZ1.out]; exact Nat.le_refl _)
                have ho := HO.out
                rw [HZA.out] at ho
                have OX := hide (SlIn.of_own ho)
                have lcx := OX.out.le
                have tcx := OX.out.top
                unfold maxLen at tcx
                clear ho HO
                go_wp2_with fail
                have SP := hide (OX.out.pre (k := len0) (by omega))
                refine (eq_any A A1 len0 c len0 c1 z0 z0 wr (by
                  have := SP.out
                  rw [List.take_left' (by simp [O1.out.size])] at this
                  exact this) ((O1.out.below HB.out (Nat.le_refl _)).mono HB.out.size) (by omega) (by omega)).mono ?_
                rintro e w5 ⟨rfl, q, rfl⟩
                have hz : (z0 == z0) = true := by simp
                clear SP
                obtain ⟨wo, hwo⟩ : ∃ wo : World, wo = wr := ⟨_, rfl⟩
                subst hwo
                have HT0 := hide (tot_zero z1)
                go_wp2_with fail
                go_loopw [8, 9] (fun p ix wr => ∃ j : Nat, j ≤ k ∧ ix = .int .i64 j ∧ p = .int .i64 ((len0 + tot z1 j : Nat) : Int) ∧ ∃ q, wr = wo.drewN q) (fun _ ix _ => k - (intOf ix).toNat)
                case atStart => exact ⟨0, Nat.zero_le _, rfl, by rw [HT0.out]; rfl, _, rfl⟩
                case round =>
                  obtain ⟨j, hj, rfl, rfl, q2, rfl⟩ := hrel
                  clear HT0
                  by_cases hlt3 : j < k
                  · obtain ⟨b, off, x, rfl, hb, hx, hc⟩ := R1.out.num hlt3
                    have hcell : wo.cell? ⟨b, off + j, none⟩ = some (.int .i32 x) := (HB.out.cell hb).trans hc
                    have HX := hide hx
                    obtain ⟨x0, x1⟩ := HN.out j x hx
                    clear hc hx
                    have hjt := tot_lt (l := z1) (k := j) (by have := HZ1.out; omega)
                    have HT := hide (tot_succ HX.out)
                    rw [HZ1.out] at hjt
                    go_wp2_with fail
                    have E := hide (decode_any A (len0 + tot z1 k) c (len0 + tot z1 j) _ _ x (wo.drewN q2) (OX.out.drewN q2) (drop_cat (by simp [O1.out.size]) HX.out) x0 x1 (by omega))
                    rw [Int.natCast_add] at E
                    refine E.out.mono ?_
                    rintro e w6 ⟨rfl, q3, rfl⟩
                    clear E
                    have hel := (enc_len x).2
                    by_cases g1 : 1114111 < x
                    · have d1 : decide (1114111 < x) = true := by simpa using g1
                      have hnx : norm x = 65533 := by unfold norm; rw [if_pos (.inr g1)]
                      rw [hnx]
                      have hne : ((65533 : Int) != 65533) = false := by simp
                      clear hnx
                      go_wp2
                      go_roundw
                      case rel => exact ⟨j + 1, by omega, by go_num, congrArg (Value.int .i64) (by have := HT.out; omega), _, rfl⟩
                      case measure => simp [intOf]; omega
                    · have d1 : decide (1114111 < x) = false := by simpa using g1
                      by_cases g2 : 55296 ≤ x
                      · have d2 : decide (55296 ≤ x) = true := by simpa using g2
                        by_cases g3 : x ≤ 57343
                        · have d3 : decide (x ≤ 57343) = true := by simpa using g3
                          have hnx : norm x = 65533 := by unfold norm; rw [if_pos (.inl ⟨g2, g3⟩)]
                          rw [hnx]
                          have hne : ((65533 : Int) != 65533) = false := by simp
                          clear hnx
                          go_wp2
                          go_roundw
                          case rel => exact ⟨j + 1, by omega, by go_num, congrArg (Value.int .i64) (by have := HT.out; omega), _, rfl⟩
                          case measure => simp [intOf]; omega
                        · have d3 : decide (x ≤ 57343) = false := by simpa using g3
                          have hnx : norm x = x := by unfold norm; rw [if_neg (by omega)]
                          rw [hnx]
                          have hne : (x != x) = false := by simp
                          clear hnx
                          go_wp2
                          go_roundw
                          case rel => exact ⟨j + 1, by omega, by go_num, congrArg (Value.int .i64) (by have := HT.out; omega), _, rfl⟩
                          case measure => simp [intOf]; omega
                      · have d2 : decide (55296 ≤ x) = false := by simpa using g2
                        have hnx : norm x = x := by unfold norm; rw [if_neg (by omega)]
                        rw [hnx]
                        have hne : (x != x) = false := by simp
                        clear hnx
                        go_wp2
                        go_roundw
                        case rel => exact ⟨j + 1, by omega, by go_num, congrArg (Value.int .i64) (by have := HT.out; omega), _, rfl⟩
                        case measure => simp [intOf]; omega
                  · have hjk : j = k := by omega
                    subst hjk
                    go_wp2
                    go_ret
                    refine ⟨by simp, below_drewN ?_ _⟩
                    exact B1.out.trans (HB.out.mono B1.out.size)
      · go_enter Tryd.func6, Tryd.ntmps6
        go_wp2
        go_ret
        exact ⟨rfl, Below.refl _ _⟩
    · go_enter Tryd.func6, Tryd.ntmps6
      go_wp2
      go_ret
      exact ⟨rfl, Below.refl _ _⟩
  · go_enter Tryd.func6, Tryd.ntmps6
    go_wp2
    all_goals go_ret
    all_goals exact ⟨rfl, Below.refl _ _⟩
end Go.Proofs.YtbdniedaofanpaaDoor.fnWriteRuneDecodesBack
