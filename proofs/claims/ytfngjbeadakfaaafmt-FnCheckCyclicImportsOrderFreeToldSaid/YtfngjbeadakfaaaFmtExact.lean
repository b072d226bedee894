/- The law FnCheckCyclicImportsExact walked, for every way in which fmt answers: the call returns true and writes nothing that was there. -/
import Derived.Test.YtfngjbeadakfaaaFmtFile
namespace Go.Proofs.YtfngjbeadakfaaaFmt
open Go.RowKit Go.Extern.Stop Go.Stop Go.Extern

set_option maxHeartbeats 2000000 in
theorem bytes10 (A : Option Addr) (m d : Nat) (zs : List ByteArray) (p : ByteArray) (w : World) (hm : m ≤ 9223372036854775807) (h : SlIn w w.heap.size A m d (zs.map Value.string)) :
    Calls Tryf.prog 10 #[.slice A m d, .string p] w (SomeBool w) := by
  have HS := hide h
  clear h
  go_enter Tryf.func10, Tryf.ntmps10
  go_wp2
  all_goals first
    | (go_ret; exact ⟨_, rfl, rfl⟩)
    | skip
  all_goals
    go_loop [5, 6] (fun t ix => ∃ (k : Nat) (x : Int), k ≤ m ∧ ix = .int .i64 k ∧ t = .int .i64 x) (fun _ ix => m - (intOf ix).toNat)
    case atStart => exact ⟨0, _, Nat.zero_le _, rfl, rfl⟩
    case round =>
      obtain ⟨k, x, hk, rfl, rfl⟩ := hrel
      by_cases hlt : k < m
      · obtain ⟨b, off, y, hA, hb, hx, hc⟩ := HS.out.str hlt
        subst hA
        clear hx
        go_wp2
        all_goals first
          | (go_ret; exact ⟨_, rfl, rfl⟩)
          | skip
        go_round
        case rel => exact ⟨k + 1, _, by omega, by go_num, rfl⟩
        case measure => simp [intOf]; omega
      · go_wp2
        all_goals
          go_ret
          exact ⟨_, rfl, rfl⟩

/-- The paths along the chain of the first k. -/
def paths (zs : List ByteArray) (k : Nat) : List ByteArray := (zs.take k).reverse ++ [⟨#[]⟩]
theorem paths_succ {zs : List ByteArray} {k : Nat} {x : ByteArray} (h : zs[k]? = some x) : paths zs (k + 1) = x :: paths zs k := by
  obtain ⟨hl, he⟩ := List.getElem?_eq_some_iff.1 h
  simp [paths, List.take_succ_eq_append_getElem hl, he]
theorem empty_list : (⟨#[]⟩ : ByteArray).toList = [] := by rw [ByteArray.toList_eq]

/-- Is the path among them? -/
def hitB (zs : List ByteArray) (p : ByteArray) (k : Nat) : Bool := (paths zs k).any fun s => s.toList == p.toList
theorem hitB_zero (zs : List ByteArray) (p : ByteArray) : hitB zs p 0 = ((⟨#[]⟩ : ByteArray).toList == p.toList) := by simp [hitB, paths]
theorem hitB_succ {zs : List ByteArray} {p : ByteArray} {k : Nat} {x : ByteArray} (h : zs[k]? = some x) : hitB zs p (k + 1) = ((x.toList == p.toList) || hitB zs p k) := by
  simp [hitB, paths_succ h]

set_option maxRecDepth 100000 in
set_option maxHeartbeats 4000000 in
theorem exact_walk (F : Interp) (a0 : Option Addr) (len0 cap0 : Nat) (z0 : List ByteArray) (a1 : ByteArray) (w : World) (hF : F.answers w.tape) (w0 : SlIn w w.heap.size a0 len0 cap0 (z0.map Value.string)) (w1 : a1.size ≤ maxLen) :
    Calls Tryf.prog 4 #[.slice a0 len0 cap0, .string a1] w fun e w' => e = .returned (.bool true) ∧ Below w.heap.size w w' := by
  have t0 := w0.top
  have l0 := w0.le
  unfold maxLen at t0 w1
  have S0 := hide w0
  have HL := hide (show z0.length = len0 by simpa using w0.len)
  have HF := hide hF
  clear w0 hF
  go_enter Tryf.func4, Tryf.ntmps4
  go_wp2_with fail
  refine (bytes10 a0 len0 cap0 z0 a1 w (by omega) S0.out).mono ?_
  rintro e w' ⟨b, rfl, rfl⟩
  cases b with
  | false =>
    go_wp2
    go_ret
    exact ⟨rfl, Below.refl _ _⟩
  | true =>
    by_cases h0 : len0 ≤ 4096
    · by_cases h1 : a1.size ≤ 65536
      · go_wp2_with fail
        refine (strs_any a0 len0 cap0 z0 w (by omega) S0.out).mono ?_
        rintro e w' ⟨x, rfl, rfl⟩
        go_wp2_with fail
        · go_ret
          exact ⟨rfl, Below.refl _ _⟩
        · refine (file_any w).mono ?_
          rintro e wf ⟨fb, sp, rfl, hfc, hfl, hbf⟩
          have BF := hide hbf
          have HFC := hide hfc
          have HFL := hide hfl
          clear hfc hfl hbf
          go_wp2_with fail
          refine (node_any fb none ⟨#[]⟩ wf).mono ?_
          rintro e wn ⟨b, rfl, hn, hbn⟩
          have C0 : Hid (Chain wn fb b (paths z0 0)) := .root hn
          have BN := hide hbn
          clear hn hbn
          go_wp2_with fail
          go_loopw [6, 7] (fun c ix wr => ∃ (k b : Nat), k ≤ len0 ∧ ix = .int .i64 k ∧ c = .pointer (some ⟨b, 0, none⟩) ∧ Hid (Chain wr fb b (paths z0 k)) ∧ Hid (Below wf.heap.size wf wr)) (fun _ ix _ => len0 - (intOf ix).toNat)
          case atStart => exact ⟨0, b, Nat.zero_le _, rfl, rfl, C0, BN⟩
          case round =>
            obtain ⟨k, b, hk, rfl, rfl, C, B⟩ := hrel
            clear C0 BN
            have BW := hide (BF.out.trans (B.out.mono BF.out.size))
            by_cases hlt : k < len0
            · obtain ⟨bx, off, x, hA, hb, hx, hc⟩ := (S0.out.below BW.out (Nat.le_refl _)).str hlt
              subst hA
              have HX := hide hx
              clear hx
              go_wp2_with fail
              refine (node_any fb (some ⟨b, 0, none⟩) x wr).mono ?_
              rintro e wn ⟨b2, rfl, hn, hbn⟩
              have C2 : Hid (Chain wn fb b2 (paths z0 (k + 1))) := by rw [paths_succ HX.out]; exact .child hn (C.out.keep hbn)
              have B2 := hide (B.out.trans (hbn.mono B.out.size))
              clear hn hbn
              go_wp2_with fail
              go_roundw
              case rel => exact ⟨k + 1, b2, by omega, by go_num, rfl, C2, B2⟩
              case measure => simp [intOf]; omega
            · obtain rfl : len0 = k := by omega
              clear hk
              have S1 := hide (S0.out.below BW.out (Nat.le_refl _))
              have HFr : Hid (F.answers wr.tape) := by have := HF.out; rw [← BW.out.tape] at this; exact this
              have hfc := (B.out.cell (p := ⟨fb, 0, none⟩) HFL.out).trans HFC.out
              have hfl := Nat.lt_of_lt_of_le HFL.out B.out.size
              by_cases hp : a1.toList = []
              · have hp2 : a1.toList.isEmpty = true := by rw [hp]; rfl
                have H0 := hide (show hitB z0 a1 0 = true by rw [hitB_zero, hp, empty_list]; rfl)
                go_wp2_with fail
                clear hp hp2
                go_loop [8, 9] (fun t ix => ∃ k : Nat, k ≤ len0 ∧ ix = .int .i64 k ∧ t = .bool (hitB z0 a1 k)) (fun _ ix => len0 - (intOf ix).toNat)
                case atStart => exact ⟨0, Nat.zero_le _, rfl, by rw [H0.out]⟩
                case round =>
                  obtain ⟨k, hk, rfl, rfl⟩ := hrel
                  by_cases hlt2 : k < len0
                  · obtain ⟨bx, off, x, hA, hb, hx, hc⟩ := S1.out.str hlt2
                    subst hA
                    have HX := hide hx
                    clear hx
                    cases hs : (x.toList == a1.toList) with
                    | true =>
                      go_wp2
                      go_round
                      case rel => exact ⟨k + 1, by omega, by go_num, by rw [hitB_succ HX.out, hs]; rfl⟩
                      case measure => simp [intOf]; omega
                    | false =>
                      go_wp2
                      go_round
                      case rel => exact ⟨k + 1, by omega, by go_num, by rw [hitB_succ HX.out, hs]; rfl⟩
                      case measure => simp [intOf]; omega
                  · obtain rfl : len0 = k := by omega
                    cases hh : hitB z0 a1 len0 with
                    | true =>
                      go_wp2_with (go_at_call 9; go_in)
                      refine (check_hit F fb sp a1 wr HFr.out hfc hfl C.out hh).mono ?_
                      rintro e w4 ⟨y, rfl, hb4⟩
                      have B4 := hide (BW.out.trans (hb4.mono BW.out.size))
                      clear hb4
                      go_wp2_with fail
                      go_ret
                      exact ⟨by simp, B4.out⟩
                    | false =>
                      go_wp2_with (go_at_call 9; go_in)
                      refine (check_miss fb a1 wr C.out hh).mono ?_
                      rintro e w4 ⟨rfl, rfl⟩
                      go_wp2_with fail
                      go_ret
                      exact ⟨by simp, BW.out⟩
              · have hp2 : a1.toList.isEmpty = false := by cases h : a1.toList with | nil => exact absurd h hp | cons _ _ => rfl
                have H0 := hide (show hitB z0 a1 0 = false by rw [hitB_zero, empty_list]; cases h : a1.toList with | nil => exact absurd h hp | cons _ _ => rfl)
                go_wp2_with fail
                clear hp hp2
                go_loop [8, 9] (fun t ix => ∃ k : Nat, k ≤ len0 ∧ ix = .int .i64 k ∧ t = .bool (hitB z0 a1 k)) (fun _ ix => len0 - (intOf ix).toNat)
                case atStart => exact ⟨0, Nat.zero_le _, rfl, by rw [H0.out]⟩
                case round =>
                  obtain ⟨k, hk, rfl, rfl⟩ := hrel
                  by_cases hlt2 : k < len0
                  · obtain ⟨bx, off, x, hA, hb, hx, hc⟩ := S1.out.str hlt2
                    subst hA
                    have HX := hide hx
                    clear hx
                    cases hs : (x.toList == a1.toList) with
                    | true =>
                      go_wp2
                      go_round
                      case rel => exact ⟨k + 1, by omega, by go_num, by rw [hitB_succ HX.out, hs]; rfl⟩
                      case measure => simp [intOf]; omega
                    | false =>
                      go_wp2
                      go_round
                      case rel => exact ⟨k + 1, by omega, by go_num, by rw [hitB_succ HX.out, hs]; rfl⟩
                      case measure => simp [intOf]; omega
                  · obtain rfl : len0 = k := by omega
                    cases hh : hitB z0 a1 len0 with
                    | true =>
                      go_wp2_with (go_at_call 9; go_in)
                      refine (check_hit F fb sp a1 wr HFr.out hfc hfl C.out hh).mono ?_
                      rintro e w4 ⟨y, rfl, hb4⟩
                      have B4 := hide (BW.out.trans (hb4.mono BW.out.size))
                      clear hb4
                      go_wp2_with fail
                      go_ret
                      exact ⟨by simp, B4.out⟩
                    | false =>
                      go_wp2_with (go_at_call 9; go_in)
                      refine (check_miss fb a1 wr C.out hh).mono ?_
                      rintro e w4 ⟨rfl, rfl⟩
                      go_wp2_with fail
                      go_ret
                      exact ⟨by simp, BW.out⟩
      · go_wp2
        go_ret
        exact ⟨rfl, Below.refl _ _⟩
    · go_wp2
      go_ret
      exact ⟨rfl, Below.refl _ _⟩
end Go.Proofs.YtfngjbeadakfaaaFmt
