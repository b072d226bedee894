/- strconv.AppendQuote and AppendQuoteToASCII at ASCII strings, onto a formatter's own array: the double-quoted text, in the array or in a row of the call's own. Conditions: strings of ASCII bytes of at most 2^20 bytes. -/
import Derived.Test.YtibndpnoeoajaaaDoorQA1
import Derived.Test.YtibndpnoeoajaaaDoorEsc
import Derived.Test.YtibndpnoeoajaaaDoorPaddingS
import Derived.OwnWalk
set_option linter.unusedSimpArgs false
namespace Go.Proofs.YtibndpnoeoajaaaDoor
open Go.RowKit

/-- No tables. -/
def T0 : Lib.PrintTabs := ⟨[], [], [], []⟩
theorem escQ_asc (T : Lib.PrintTabs) (asc : Bool) {r : Int} (h1 : r < 128) : escQ T 34 asc r = escQ T0 34 true r := by
  have e : Lib.isPrintR T r = Lib.isPrintR T0 r := by
    have : r ≤ 255 := by omega
    simp [Lib.isPrintR, this]
  simp only [escQ, e, h1, implies_true]
/-- A byte, escaped; a text, escaped; in its quotes. -/
def escB (x : UInt8) : List Int := escQ T0 34 true x.toNat
def escL (l : List UInt8) : List Int := l.flatMap escB
def quoteL (l : List UInt8) : List Int := 34 :: (escL l ++ [34])
theorem escL_cons (x : UInt8) (l : List UInt8) : escL (x :: l) = escB x ++ escL l := rfl
theorem escL_app (l m : List UInt8) : escL (l ++ m) = escL l ++ escL m := by simp [escL]
/-- At ASCII at most four bytes of one. -/
theorem escB_len {x : UInt8} (h : x.toNat < 128) : 1 ≤ (escB x).length ∧ (escB x).length ≤ 4 := by
  unfold escB escQ
  have h4 := Lib.encodeRuneZ_length (x.toNat : Int)
  by_cases c0 : (x.toNat : Int) = 34 ∨ (x.toNat : Int) = 92
  · rw [if_pos c0]; simp
  rw [if_neg c0]
  have h255 : (x.toNat : Int) ≤ 255 := by omega
  have hp : Lib.isPrintR T0 (x.toNat : Int) = Lib.isPrintLatin (x.toNat : Int) := by simp [Lib.isPrintR, h255]
  by_cases hx : (x.toNat : Int) < 32 ∨ (x.toNat : Int) = 127
  · have hnp : ¬ (Lib.isPrintR T0 (x.toNat : Int) = true ∧ (true = true → (x.toNat : Int) < 128)) := by
      rw [hp]
      simp [Lib.isPrintLatin]
      omega
    rw [if_neg hnp]
    repeat' split
    all_goals first | (simp; done) | (exfalso; omega)
  · have hyp : Lib.isPrintR T0 (x.toNat : Int) = true ∧ (true = true → (x.toNat : Int) < 128) := by
      rw [hp]
      simp [Lib.isPrintLatin]
      omega
    rw [if_pos hyp]
    exact h4
theorem escL_len : ∀ l : List UInt8, Asc l → l.length ≤ (escL l).length ∧ (escL l).length ≤ 4 * l.length
  | [], _ => by simp [escL]
  | x :: l, h => by
    have h1 := escB_len (h x (by simp))
    have h2 := escL_len l fun y hy => h y (by simp [hy])
    rw [escL_cons]
    simp only [List.length_append, List.length_cons]
    omega

theorem EBuf.fresh {W w : World} {T e : TypeId} {b : Nat} {F : Array Value} {v : Value} (hb : W.heap[b]? = some (.cells F T (0, 0))) (hg : Below W.heap.size W w) (ho : w.ownsRow W.heap.size e 1 v 0 []) : EBuf W T e b F.size 0 F v [] w := by
  have hlt : b < W.heap.size := (Array.getElem?_eq_some_iff.1 hb).1
  exact ⟨hg.os, hg.tape, hg.output, hg.size, fun k hk _ => hg.block k hk, hlt, Nat.zero_le _, F, (hg.block b hlt).trans hb, rfl, by omega, fun _ _ => rfl, .inr ⟨Nat.zero_le _, World.ownsRowF_of ho⟩⟩

set_option maxHeartbeats 16000000 in
set_option maxRecDepth 100000 in
theorem appendQuoted_any (asc : Bool) (fb : Nat) (F : Array Value) (hF : F.size = 83) (s : ByteArray) (hs : s.size ≤ 1048576) (ha : Asc s.data.toList) (w : World) (hfm : w.heap[fb]? = some (.cells F 35 (0, 0))) :
    Calls Tryd.prog 23 #[.slice (some ⟨fb, 15, none⟩) 0 68, .string s, .int .u8 34, .bool asc, .bool false] w fun e w' => ∃ v off cap, e = .returned v ∧ 15 ≤ off ∧ EBuf w 35 5 fb off cap F v (Lib.intCells (quoteL s.data.toList)) w' := by
  obtain ⟨i0, hi, hz0, hz1, hz2⟩ := info_parts info_e
  have HSZ : Hid ((Tryd.prog.info? 5).map (·.size) = some 1) := by show _ = _; rw [hi]; simp [hz1]
  have HFM := hide hfm
  have HA := hide ha
  clear ha
  by_cases hbig : 68 < s.size
  · clear hfm
    have hroom : decide ((68 : Int) < (s.size : Int)) = true := by simp; omega
    have hw1 : IntKind.i64.wrap (1 + (s.size : Int)) = 1 + (s.size : Int) := IntWalk.i64_in _ (by omega)
    have hw2 : IntKind.i64.wrap (1 + (s.size : Int) + 1) = 1 + (s.size : Int) + 1 := IntWalk.i64_in _ (by omega)
    go_enter Tryd.func23, Tryd.ntmps23
    go_big_wp2_with (first | (at_make; refine wpList_make_own _ rfl _ _ 24 rfl w.heap.size 5 i0 (.int .u8 0) 1 Tryd.underlying24 hi hz0 hz1 _ _ _ (1 + s.size + 1) rfl rfl (by simp) (by rw [hz2]; omega) (by unfold maxLen; omega) (Nat.le_refl _) ?_; intro w1 hown1 hgrow1; have hb := EBuf.fresh HFM.out ((Below.refl _ _).grown hgrow1 (Nat.le_refl _) (by intro k hk; cases hk)) hown1; rw [hF] at hb; clear hown1 hgrow1) | (with_reducible refine wpList_copy_nothing rfl (.tmp 32) (.tmp 33) 24 24 rfl 5 Tryd.underlying24 HSZ.out _ _ _ _ _ _ rfl rfl rfl ?_) | (at_builtin; refine wpList_append_litE rfl _ _ 24 rfl i0 Tryd.underlying24 hi hz0 hz1 hz2 _ _ rfl _ _ 1 rfl (by intro u hu; simp at hu; subst hu; rfl) (by assumption) rfl (by first | (simp; done) | (simp; omega) | omega) ?_; intro u1 w2 hb))
    have Hb0 := hide hb
    clear hb
    go_loopw [0, 1] (fun vb vs wr => ∃ (rest : ByteArray) (acc : List Int), vs = .string rest ∧ rest.size ≤ 1048576 ∧ Hid (Asc rest.data.toList) ∧ Hid (EBuf w 35 5 fb 83 0 F vb ([] ++ [.int .u8 34] ++ Lib.intCells acc) wr) ∧ Hid (acc ++ escL rest.data.toList = escL s.data.toList) ∧ acc.length + 4 * rest.size ≤ 4 * 1048576)
      (fun _ vs _ => match vs with | .string r => r.size | _ => 0)
    case atStart => exact ⟨s, [], rfl, hs, HA, by have := Hb0.out; simpa [Hid, Lib.intCells] using this, rfl, by simp; omega⟩
    case round =>
      obtain ⟨rest, acc, rfl, hr, HR, HB, HQ, hlen⟩ := hrel
      clear Hb0
      by_cases h0 : 0 < rest.size
      · obtain ⟨y, ys, h1, h2, h3⟩ := str_cons rest h0
        obtain ⟨x, hx⟩ : ∃ x, x = y.toNat := ⟨_, rfl⟩
        have hx128 : x < 128 := by rw [hx, ← h2]; exact HR.out.at 0 h0
        have hx0 : (rest[0]'h0).toNat = x := by rw [h2, hx]
        have cD := decode_low rest h0 x hx0 hx128
        have HL := hide h1
        have HY := hide h3
        have HX := hide hx
        have hsz : (rest.extract 1 rest.size).size = rest.size - 1 := by simp [ByteArray.size_extract]
        have hI : (0 : Int) < (rest.size : Int) := by omega
        have hA2 : Hid (Asc (rest.extract 1 rest.size).data.toList) := by
          show Asc _
          rw [HY.out]
          intro z hz
          exact HR.out z (by rw [HL.out]; simp [hz])
        have hkl : (([] : List Value) ++ [Value.int .u8 34] ++ Lib.intCells acc).length + 10 ≤ 140737488355328 := by
          simp [Lib.intCells]; omega
        have cE := fun v w' (hb : EBuf w 35 5 fb 83 0 F v ([] ++ [.int .u8 34] ++ Lib.intCells acc) w') => esc_low T0 asc v ([] ++ [.int .u8 34] ++ Lib.intCells acc) (x : Int) w' hb hkl (by omega) (by omega)
        have HEB : Hid (escQ T0 34 asc (x : Int) = escB y) := by
          show _ = _
          rw [escQ_asc T0 asc (by omega), HX.out]; rfl
        have hel : (escQ T0 34 asc (x : Int)).length ≤ 4 := by
          rw [HEB.out]; exact (escB_len (by rw [← HX.out]; exact hx128)).2
        have e0 : ((x : Int) == 65533) = false := by simp; omega
        clear h1 h2 h3 hx hx0 hx128
        go_big_wp2_with (go_at_call 17; refine (cD _).mono ?_; rintro e w' ⟨rfl, rfl⟩)
        refine (cE _ _ HB.out).mono ?_
        rintro e w3 ⟨v3, rfl, hb3⟩
        go_big_wp2_with fail
        go_roundw
        case rel =>
          refine ⟨_, acc ++ escQ T0 34 asc (x : Int), rfl, by omega, hA2, ?_, ?_, ?_⟩
          · have := hb3
            simpa [Hid, Lib.intCells, List.append_assoc] using this
          · show _ = _
            rw [HY.out, HEB.out, List.append_assoc, ← escL_cons, ← HL.out, HQ.out]
          · simp only [List.length_append]; omega
        case measure => simp only []; omega
      · have h0' : ¬ (0 : Int) < (rest.size : Int) := by omega
        have hb := HB.out
        have HQ2 : Hid (acc = escL s.data.toList) := by
          show _ = _
          have := HQ.out
          rw [show rest.data.toList = [] from List.eq_nil_of_length_eq_zero (by rw [bsz]; omega)] at this
          simpa [escL] using this
        have hkl : (([] : List Value) ++ [Value.int .u8 34] ++ Lib.intCells acc).length + 1 ≤ 140737488355328 := by
          simp [Lib.intCells]; omega
        go_big_wp2_with (at_builtin; refine wpList_append_litE rfl _ _ 24 rfl i0 Tryd.underlying24 hi hz0 hz1 hz2 _ _ rfl wr _ 1 rfl (by intro u hu; simp at hu; subst hu; rfl) hb rfl hkl ?_; intro u2 w3 hb3)
        go_ret
        refine ⟨_, rfl, 83, by omega, 0, ?_⟩
        have := hb3
        simpa [quoteL, HQ2.out, Lib.intCells] using this
  · have hroom : decide ((68 : Int) < (s.size : Int)) = false := by simp; omega
    have hb := EBuf.start (e := 5) hfm (off := 15) (cap := 68) (by omega) (by unfold maxLen; omega)
    clear hfm
    go_enter Tryd.func23, Tryd.ntmps23
    go_big_wp2_with (at_builtin; refine wpList_append_litE rfl _ _ 24 rfl i0 Tryd.underlying24 hi hz0 hz1 hz2 _ _ rfl _ _ 1 rfl (by intro u hu; simp at hu; subst hu; rfl) (by assumption) rfl (by first | (simp; done) | (simp; omega) | omega) ?_; intro u1 w2 hb)
    have Hb0 := hide hb
    clear hb
    go_loopw [0, 1] (fun vb vs wr => ∃ (rest : ByteArray) (acc : List Int), vs = .string rest ∧ rest.size ≤ 1048576 ∧ Hid (Asc rest.data.toList) ∧ Hid (EBuf w 35 5 fb 15 68 F vb ([] ++ [.int .u8 34] ++ Lib.intCells acc) wr) ∧ Hid (acc ++ escL rest.data.toList = escL s.data.toList) ∧ acc.length + 4 * rest.size ≤ 4 * 1048576)
      (fun _ vs _ => match vs with | .string r => r.size | _ => 0)
    case atStart => exact ⟨s, [], rfl, hs, HA, by have := Hb0.out; simpa [Hid, Lib.intCells] using this, rfl, by simp; omega⟩
    case round =>
      obtain ⟨rest, acc, rfl, hr, HR, HB, HQ, hlen⟩ := hrel
      clear Hb0
      by_cases h0 : 0 < rest.size
      · obtain ⟨y, ys, h1, h2, h3⟩ := str_cons rest h0
        obtain ⟨x, hx⟩ : ∃ x, x = y.toNat := ⟨_, rfl⟩
        have hx128 : x < 128 := by rw [hx, ← h2]; exact HR.out.at 0 h0
        have hx0 : (rest[0]'h0).toNat = x := by rw [h2, hx]
        have cD := decode_low rest h0 x hx0 hx128
        have HL := hide h1
        have HY := hide h3
        have HX := hide hx
        have hsz : (rest.extract 1 rest.size).size = rest.size - 1 := by simp [ByteArray.size_extract]
        have hI : (0 : Int) < (rest.size : Int) := by omega
        have hA2 : Hid (Asc (rest.extract 1 rest.size).data.toList) := by
          show Asc _
          rw [HY.out]
          intro z hz
          exact HR.out z (by rw [HL.out]; simp [hz])
        have hkl : (([] : List Value) ++ [Value.int .u8 34] ++ Lib.intCells acc).length + 10 ≤ 140737488355328 := by
          simp [Lib.intCells]; omega
        have cE := fun v w' (hb : EBuf w 35 5 fb 15 68 F v ([] ++ [.int .u8 34] ++ Lib.intCells acc) w') => esc_low T0 asc v ([] ++ [.int .u8 34] ++ Lib.intCells acc) (x : Int) w' hb hkl (by omega) (by omega)
        have HEB : Hid (escQ T0 34 asc (x : Int) = escB y) := by
          show _ = _
          rw [escQ_asc T0 asc (by omega), HX.out]; rfl
        have hel : (escQ T0 34 asc (x : Int)).length ≤ 4 := by
          rw [HEB.out]; exact (escB_len (by rw [← HX.out]; exact hx128)).2
        have e0 : ((x : Int) == 65533) = false := by simp; omega
        clear h1 h2 h3 hx hx0 hx128
        go_big_wp2_with (go_at_call 17; refine (cD _).mono ?_; rintro e w' ⟨rfl, rfl⟩)
        refine (cE _ _ HB.out).mono ?_
        rintro e w3 ⟨v3, rfl, hb3⟩
        go_big_wp2_with fail
        go_roundw
        case rel =>
          refine ⟨_, acc ++ escQ T0 34 asc (x : Int), rfl, by omega, hA2, ?_, ?_, ?_⟩
          · have := hb3
            simpa [Hid, Lib.intCells, List.append_assoc] using this
          · show _ = _
            rw [HY.out, HEB.out, List.append_assoc, ← escL_cons, ← HL.out, HQ.out]
          · simp only [List.length_append]; omega
        case measure => simp only []; omega
      · have h0' : ¬ (0 : Int) < (rest.size : Int) := by omega
        have hb := HB.out
        have HQ2 : Hid (acc = escL s.data.toList) := by
          show _ = _
          have := HQ.out
          rw [show rest.data.toList = [] from List.eq_nil_of_length_eq_zero (by rw [bsz]; omega)] at this
          simpa [escL] using this
        have hkl : (([] : List Value) ++ [Value.int .u8 34] ++ Lib.intCells acc).length + 1 ≤ 140737488355328 := by
          simp [Lib.intCells]; omega
        go_big_wp2_with (at_builtin; refine wpList_append_litE rfl _ _ 24 rfl i0 Tryd.underlying24 hi hz0 hz1 hz2 _ _ rfl wr _ 1 rfl (by intro u hu; simp at hu; subst hu; rfl) hb rfl hkl ?_; intro u2 w3 hb3)
        go_ret
        refine ⟨_, rfl, 15, by omega, 68, ?_⟩
        have := hb3
        simpa [quoteL, HQ2.out, Lib.intCells] using this
end Go.Proofs.YtibndpnoeoajaaaDoor
