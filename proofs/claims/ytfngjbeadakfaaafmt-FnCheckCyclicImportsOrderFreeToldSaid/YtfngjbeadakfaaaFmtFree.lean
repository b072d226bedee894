/- The law FnCheckCyclicImportsOrderFree walked, for every way in which fmt answers: the call returns true and writes nothing that was there. -/
import Derived.Test.YtfngjbeadakfaaaFmtExact
import Derived.Deep.QuietTactic
import Derived.BigQuiet
namespace Go.Proofs.YtfngjbeadakfaaaFmt
open Go.RowKit Go.Extern.Stop Go.Stop Go.Extern

theorem any_same (zs : List ByteArray) (p : ByteArray) (n : Nat) (h : zs.length = n) : ((zs.drop 0 ++ [(⟨#[]⟩ : ByteArray)]).any fun s => s.toList == p.toList) = hitB zs p n := by
  subst h
  simp [hitB, paths]

set_option maxHeartbeats 2000000 in
theorem bytes5 (A : Option Addr) (m d : Nat) (zs : List ByteArray) (p : ByteArray) (w : World) (hm : m ≤ 9223372036854775807) (h : SlIn w w.heap.size A m d (zs.map Value.string)) :
    Calls Tryf.prog 5 #[.slice A m d, .string p] w (SomeBool w) := by
  have HS := hide h
  clear h
  go_enter Tryf.func5, Tryf.ntmps5
  go_wp2
  all_goals first
    | (go_ret; exact ⟨_, rfl, rfl⟩)
    | skip
  all_goals
    go_loop [5, 6] (fun t ix => ∃ (k : Nat) (x : Int), k ≤ m ∧ ix = .int .i64 k ∧ t = .int .i64 x) (fun _ ix => m - (intOf ix).toNat)
    case atStart => exact ⟨0, _, Nat.zero_le _, rfl, rfl⟩
    case round =>
      obtain ⟨k, x, hk, rfl, rfl⟩ := hrel
      by_cases hlt : k < m
      · obtain ⟨b, off, y, hA, hb, hx, hc⟩ := HS.out.str hlt
        subst hA
        clear hx
        go_wp2
        all_goals first
          | (go_ret; exact ⟨_, rfl, rfl⟩)
          | skip
        go_round
        case rel => exact ⟨k + 1, _, by omega, by go_num, rfl⟩
        case measure => simp [intOf]; omega
      · go_wp2
        all_goals
          go_ret
          exact ⟨_, rfl, rfl⟩

set_option maxRecDepth 100000 in
set_option maxHeartbeats 4000000 in
theorem free_walk (F : Interp) (a0 : Option Addr) (len0 cap0 : Nat) (z0 : List ByteArray) (a1 : ByteArray) (w : World) (hF : F.answers w.tape) (w0 : SlIn w w.heap.size a0 len0 cap0 (z0.map Value.string)) (w1 : a1.size ≤ maxLen) :
    Calls Tryf.prog 3 #[.slice a0 len0 cap0, .string a1] w fun e w' => e = .returned (.bool true) ∧ Below w.heap.size w w' := by
  have t0 := w0.top
  have l0 := w0.le
  unfold maxLen at t0 w1
  have S0 := hide w0
  have HL := hide (show z0.length = len0 by simpa using w0.len)
  have HF := hide hF
  clear w0 hF
  go_enter Tryf.func3, Tryf.ntmps3
  go_wp2_with fail
  refine (bytes5 a0 len0 cap0 z0 a1 w (by omega) S0.out).mono ?_
  rintro e w' ⟨b, rfl, rfl⟩
  cases b with
  | false =>
    go_wp2
    go_ret
    exact ⟨rfl, Below.refl _ _⟩
  | true =>
    by_cases h0 : len0 ≤ 4096
    · by_cases h1 : a1.size ≤ 65536
      · go_wp2_with fail
        refine (strs_any a0 len0 cap0 z0 w (by omega) S0.out).mono ?_
        rintro e w' ⟨x, rfl, rfl⟩
        go_wp2_with fail
        · go_ret
          exact ⟨rfl, Below.refl _ _⟩
        · refine (file_any w).mono ?_
          rintro e wf ⟨fb, sp, rfl, hfc, hfl, hbf⟩
          have BF := hide hbf
          have HFC := hide hfc
          have HFL := hide hfl
          clear hfc hfl hbf
          go_wp2_with fail
          refine (node_any fb none ⟨#[]⟩ wf).mono ?_
          rintro e wn ⟨b, rfl, hn, hbn⟩
          have C0 : Hid (Chain wn fb b (paths z0 0)) := .root hn
          have BN := hide hbn
          clear hn hbn
          go_wp2_with fail
          go_loopw [6, 7] (fun c ix wr => ∃ (k b : Nat), k ≤ len0 ∧ ix = .int .i64 k ∧ c = .pointer (some ⟨b, 0, none⟩) ∧ Hid (Chain wr fb b (paths z0 k)) ∧ Hid (Below wf.heap.size wf wr)) (fun _ ix _ => len0 - (intOf ix).toNat)
          case atStart => exact ⟨0, b, Nat.zero_le _, rfl, rfl, C0, BN⟩
          case round =>
            obtain ⟨k, b, hk, rfl, rfl, C, B⟩ := hrel
            clear C0 BN
            have BW := hide (BF.out.trans (B.out.mono BF.out.size))
            by_cases hlt : k < len0
            · obtain ⟨bx, off, x, hA, hb, hx, hc⟩ := (S0.out.below BW.out (Nat.le_refl _)).str hlt
              subst hA
              have HX := hide hx
              clear hx
              go_wp2_with fail
              refine (node_any fb (some ⟨b, 0, none⟩) x wr).mono ?_
              rintro e wn ⟨b2, rfl, hn, hbn⟩
              have C2 : Hid (Chain wn fb b2 (paths z0 (k + 1))) := by rw [paths_succ HX.out]; exact .child hn (C.out.keep hbn)
              have B2 := hide (B.out.trans (hbn.mono B.out.size))
              clear hn hbn
              go_wp2_with fail
              go_roundw
              case rel => exact ⟨k + 1, b2, by omega, by go_num, rfl, C2, B2⟩
              case measure => simp [intOf]; omega
            · obtain rfl : len0 = k := by omega
              clear hk
              have S1 := hide (S0.out.below BW.out (Nat.le_refl _))
              have HFr : Hid (F.answers wr.tape) := by have := HF.out; rw [← BW.out.tape] at this; exact this
              have hfc := (B.out.cell (p := ⟨fb, 0, none⟩) HFL.out).trans HFC.out
              have hfl := Nat.lt_of_lt_of_le HFL.out B.out.size
              obtain ⟨wo, rfl⟩ : ∃ wo : World, wo = wr := ⟨_, rfl⟩
              go_wp2_with fail
              refine (node_any fb none ⟨#[]⟩ wo).mono ?_
              rintro e wm ⟨bb, rfl, hn, hbn⟩
              have D0 : Hid (Chain wm fb bb (z0.drop len0 ++ [⟨#[]⟩])) := by rw [List.drop_of_length_le (Nat.le_of_eq HL.out)]; exact .root hn
              have DN := hide hbn
              clear hn hbn
              go_wp2_with fail
              go_loopw [8, 9] (fun c ix wr => ∃ (k b : Nat), k ≤ len0 ∧ ix = .int .i64 ((k : Int) - 1) ∧ c = .pointer (some ⟨b, 0, none⟩) ∧ Hid (Chain wr fb b (z0.drop k ++ [⟨#[]⟩])) ∧ Hid (Below wo.heap.size wo wr)) (fun _ ix _ => (intOf ix + 1).toNat)
              case atStart => exact ⟨len0, bb, Nat.le_refl _, rfl, rfl, D0, DN⟩
              case round =>
                obtain ⟨k, bq, hk, rfl, rfl, D, Q⟩ := hrel
                clear D0 DN
                by_cases hk0 : 0 < k
                · obtain ⟨j, rfl⟩ : ∃ j, k = j + 1 := ⟨k - 1, by omega⟩
                  obtain ⟨bx, off, x, hA, hb, hx, hc⟩ := (S1.out.below Q.out BW.out.size).str (show j < len0 by omega)
                  subst hA
                  have HX := hide hx
                  clear hx
                  rw [show (((j + 1 : Nat) : Int) - 1) = (j : Int) by omega]
                  go_wp2_with fail
                  refine (node_any fb (some ⟨bq, 0, none⟩) x _).mono ?_
                  rintro e wn ⟨b2, rfl, hn, hbn⟩
                  have C2 : Hid (Chain wn fb b2 (z0.drop j ++ [⟨#[]⟩])) := by
                    obtain ⟨hl, he⟩ := List.getElem?_eq_some_iff.1 HX.out
                    rw [List.drop_eq_getElem_cons hl, he]
                    exact .child hn (D.out.keep hbn)
                  have B2 := hide (Q.out.trans (hbn.mono Q.out.size))
                  clear hn hbn
                  go_wp2_with fail
                  go_roundw
                  case rel => exact ⟨j, b2, by omega, rfl, rfl, C2, B2⟩
                  case measure => first | (simp [intOf]; done) | (simp [intOf]; omega)
                · obtain rfl : k = 0 := by omega
                  have hAny := any_same z0 a1 len0 HL.out
                  have BQ := hide (BW.out.trans (Q.out.mono BW.out.size))
                  have HFq : Hid (F.answers wr.tape) := by have := HF.out; rw [← BQ.out.tape] at this; exact this
                  have hfq := (Q.out.cell (p := ⟨fb, 0, none⟩) hfl).trans hfc
                  have hflq := Nat.lt_of_lt_of_le hfl Q.out.size
                  have CA := hide (C.out.keep Q.out)
                  have HAny := hide hAny
                  clear hAny
                  rw [show (((0 : Nat) : Int) - 1) = -1 by omega]
                  cases hh : hitB z0 a1 len0 with
                  | true =>
                    have HH := hide hh
                    clear hh
                    go_wp2_with (go_at_call 9; go_in)
                    refine (check_hit F fb sp a1 wr HFq.out hfq hflq CA.out HH.out).mono ?_
                    rintro e w4 ⟨y, rfl, hb4⟩
                    have D4 := hide (D.out.keep hb4)
                    have B4 := hide (BQ.out.trans (hb4.mono BQ.out.size))
                    have hf4 := (hb4.cell (p := ⟨fb, 0, none⟩) hflq).trans hfq
                    have hfl4 := Nat.lt_of_lt_of_le hflq hb4.size
                    have HF4 : Hid (F.answers w4.tape) := by have := HF.out; rw [← B4.out.tape] at this; exact this
                    clear hb4
                    go_wp2_with (go_at_call 9; go_in)
                    refine (check_hit F fb sp a1 w4 HF4.out hf4 hfl4 D4.out (HAny.out.trans HH.out)).mono ?_
                    rintro e w5 ⟨y5, rfl, hb5⟩
                    have B5 := hide (B4.out.trans (hb5.mono B4.out.size))
                    clear hb5
                    go_wp2_with fail
                    go_quiet (fail)
                    go_wp2
                    go_ret
                    exact ⟨by simp, below_drewN B5.out _⟩
                  | false =>
                    have HH := hide hh
                    clear hh
                    go_wp2_with (go_at_call 9; go_in)
                    refine (check_miss fb a1 wr CA.out HH.out).mono ?_
                    rintro e w4 ⟨rfl, rfl⟩
                    go_wp2_with (go_at_call 9; go_in)
                    refine (check_miss fb a1 wr D.out (HAny.out.trans HH.out)).mono ?_
                    rintro e w5 ⟨rfl, rfl⟩
                    go_wp2_with fail
                    go_quiet (fail)
                    go_wp2
                    go_ret
                    exact ⟨by simp, below_drewN BQ.out _⟩
      · go_wp2
        go_ret
        exact ⟨rfl, Below.refl _ _⟩
    · go_wp2
      go_ret
      exact ⟨rfl, Below.refl _ _⟩
end Go.Proofs.YtfngjbeadakfaaaFmt
