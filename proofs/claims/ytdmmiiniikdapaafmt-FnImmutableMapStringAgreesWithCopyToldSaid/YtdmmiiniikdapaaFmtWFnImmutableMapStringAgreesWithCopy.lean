/- The law FnImmutableMapStringAgreesWithCopy walked: the call returns true and writes nothing that was there, whatever numbers strconv's table holds, fmt's texts told by the library's own function. Its conditions: none beyond the arguments' types. -/
import Derived.Test.YtdmmiiniikdapaaFmtStr
import Derived.Test.YtdmmiiniikdapaaFmtBytes
import Derived.Test.YtdmmiiniikdapaaFmtPerm
import Derived.Deep.QuietTactic
import Derived.BigQuiet
import Derived.RegionTactic
set_option linter.unusedSimpArgs false
namespace Go.Proofs.YtdmmiiniikdapaaFmt.fnImmutableMapStringAgreesWithCopy
open Go.RowKit Go.Proofs.YtdmmiiniikdapaaFmt Go.Extern.Stop Go.Stop Go.Extern
theorem sl_of {w2 w' : World} {A : Option Addr} {n c : Nat} {xs : List Value} (hb : Below w2.heap.size w2 w') (h : SlIn w2 w2.heap.size A n c xs) : SlIn w' w'.heap.size A n c xs := (h.below hb (Nat.le_refl _)).mono hb.size

set_option maxRecDepth 100000 in
set_option maxHeartbeats 1000000 in
theorem copyStr (F : Interp) (T : Nat → Int) (ob bm n : Nat) (D : DataW Unit) (V : Vals) (w : World) (hF : F.told.answers w.tape) (hT : Tab w T) (hV : Fits V) (h : IM w ob bm n D V) :
    Calls Tryf.prog 17 #[.pointer (some ⟨ob, 0, none⟩)] w (StrOut T V w) := by
  have HI := hide h
  have HT := hide hT
  have HV := hide hV
  have HF := hide hF
  clear h hT hV hF
  go_enter Tryf.func17, Tryf.ntmps17
  go_wp2_with fail
  refine (copy_any ob bm n D V w HI.out).mono ?_
  rintro e w1 ⟨ob1, bm1, n1, D1, rfl, hI1, hb1⟩
  have I1 := hide hI1
  have B1 := hide hb1
  clear hI1 hb1
  go_wp2_with (go_at_call 69; refine (string69_any F T ob1 bm1 n1 D1 V w1 (by rw [B1.out.tape]; exact HF.out) (HT.out.below B1.out HT.out.lt) HV.out I1.out).mono ?_; rintro e w2 ⟨ps, rfl, hnd, hk, hl, hb2⟩; have R2 := hide (And.intro hnd (And.intro hk (And.intro hl hb2))); clear hnd hk hl hb2)
  go_ret
  obtain ⟨hnd, hk, hl, hb2⟩ := R2.out
  exact ⟨ps, rfl, hnd, hk, hl, B1.out.trans (hb2.mono B1.out.size)⟩
set_option maxRecDepth 100000 in
set_option linter.unusedVariables false in
set_option maxHeartbeats 4000000 in
theorem walk (F : Interp) (T : Nat → Int) (a0 : Option Addr) (len0 cap0 : Nat) (z0 : List ByteArray) (a1 : Option Addr) (len1 cap1 : Nat) (z1 : List Int) (w : World) (hF : F.told.answers w.tape) (hT : Tab w T) (w0 : SlIn w w.heap.size a0 len0 cap0 (z0.map Value.string)) (wf0 : ∀ s ∈ z0, s.size ≤ maxLen) (w1 : SlIn w w.heap.size a1 len1 cap1 (z1.map (Value.int .i64))) (wf1 : ∀ n ∈ z1, (Lit.int .i64 n).wf = true) :
    Calls Tryf.prog 4 #[.slice a0 len0 cap0, .slice a1 len1 cap1] w fun e w' => e = .returned (.bool true) ∧ Below w.heap.size w w' := by
  have t0 := w0.top
  have l0 := w0.le
  have t1 := w1.top
  have l1 := w1.le
  unfold maxLen at t0 t1
  have S0 := hide w0
  have S1 := hide w1
  have W0 := hide wf0
  have W1 := hide wf1
  have HF := hide hF
  have HT := hide hT
  clear w0 w1 wf0 wf1 hF hT
  go_enter Tryf.func4, Tryf.ntmps4
  go_wp2_with fail
  refine (bytes16 a0 len0 cap0 z0 a1 len1 cap1 w (by omega) S0.out).mono ?_
  rintro e w' ⟨b, rfl, hshort, rfl⟩
  have HSH := hide hshort
  clear hshort
  cases b with
  | false =>
    go_wp2
    go_ret
    exact ⟨rfl, Below.refl _ _⟩
  | true =>
    by_cases h0 : len0 ≤ 4096
    · by_cases h1 : len1 ≤ 4096
      · go_wp2_with fail
        refine (bytes6 a0 len0 cap0 z0 a1 len1 cap1 w (by omega) S0.out).mono ?_
        rintro e w' ⟨x, rfl, rfl⟩
        by_cases hx : x ≤ 1048576
        · go_wp2_with fail
          refine (cloneS_any a0 len0 cap0 z0 w S0.out (by omega)).mono ?_
          rintro e w1 ⟨A0, c0, rfl, ho1, hb1⟩
          have O1 := hide (SlIn.of_own ho1)
          have B1 := hide hb1
          clear ho1 hb1
          go_wp2_with fail
          refine (cloneI_any a1 len1 cap1 z1 w1 (sl_of B1.out S1.out) (by omega)).mono ?_
          rintro e w2 ⟨A1, c1, rfl, ho2, hb2⟩
          have P2 := hide (SlIn.of_own ho2)
          have O2 := hide (sl_of hb2 O1.out)
          have B2 := hide (B1.out.trans (hb2.mono B1.out.size))
          clear ho2 hb2 O1 B1
          go_wp2_with fail
          refine (map_any A0 len0 c0 z0 A1 len1 c1 z1 w2 O2.out P2.out W0.out h0 h1).mono ?_
          rintro e w3 ⟨ob, bm, n, D, V, rfl, him, hfrom, hb3⟩
          have M3 := hide him
          have FR := hide hfrom
          have FI := hide (fits_of hfrom (HSH.out (by first | trivial | rfl)) W1.out)
          have O3 := hide (sl_of hb3 O2.out)
          have P3 := hide (sl_of hb3 P2.out)
          have B3 := hide (B2.out.trans (hb3.mono B2.out.size))
          clear him hfrom hb3 B2 O2 P2
          go_wp2_with fail
          refine (string10_any F T ob bm n D V w3 (by rw [B3.out.tape]; exact HF.out) (HT.out.below B3.out HT.out.lt) FI.out M3.out).mono ?_
          rintro e w4 ⟨ps, rfl, hnd, hk, hl, hb4⟩
          have M4 := hide (M3.out.below hb4)
          have O4 := hide (sl_of hb4 O3.out)
          have P4 := hide (sl_of hb4 P3.out)
          have B4 := hide (B3.out.trans (hb4.mono B3.out.size))
          have N1 := hide hnd
          have K1 := hide hk
          have L1 := hide hl
          clear hnd hk hl hb4 B3 O3 P3 M3
          go_wp2_with fail
          refine (copyStr F T ob bm n D V w4 (by rw [B4.out.tape]; exact HF.out) (HT.out.below B4.out HT.out.lt) FI.out M4.out).mono ?_
          rintro e w5 ⟨qs, rfl, hnd, hk, hl, hb5⟩
          have O5 := hide (sl_of hb5 O4.out)
          have P5 := hide (sl_of hb5 P4.out)
          have B5 := hide (B4.out.trans (hb5.mono B4.out.size))
          have PM := hide (perm_of_keys N1.out hnd K1.out hk)
          clear hnd hk hl hb5 B4 O4 P4 M4
          go_wp2_with fail
          refine (distinct_any A0 len0 c0 z0 A1 len1 c1 z1 w5 O5.out P5.out h0 h1).mono ?_
          rintro e w6 ⟨A3, n3, c3, A4, n4, c4, rfl, hsame, hn3, hb6⟩
          have B6 := hide (B5.out.trans (hb6.mono B5.out.size))
          have SM := hide hsame
          clear hb6 hsame B5 O5 P5
          have SP := hide (strT_perm (T := T) (V := V) PM.out)
          have LG := hide (strT_length (T := T) FI.out K1.out L1.out)
          by_cases hn1 : n3 ≤ 1
          · have e1 : ps = qs := one_order FR.out (SM.out hn1) N1.out PM.out K1.out
            have HE : Hid (strT T V ps = strT T V qs) := by rw [e1]; exact rfl
            clear e1
            obtain ⟨g, hg⟩ : ∃ g : ByteArray, (⟨(strT T V ps).toArray⟩ : ByteArray) = g := ⟨_, rfl⟩
            have hg2 : (⟨(strT T V qs).toArray⟩ : ByteArray) = g := by rw [← HE.out]; exact hg
            rw [hg, hg2]
            clear hg hg2
            have heq : (g.toList == g.toList) = true := by simp
            go_wp2
            go_ret
            exact ⟨rfl, B6.out⟩
          · obtain ⟨g, hg⟩ : ∃ g : ByteArray, (⟨(strT T V ps).toArray⟩ : ByteArray) = g := ⟨_, rfl⟩
            obtain ⟨h, hh⟩ : ∃ h : ByteArray, (⟨(strT T V qs).toArray⟩ : ByteArray) = h := ⟨_, rfl⟩
            have HG : Hid (g.data.toList = strT T V ps) := by rw [← hg]; exact rfl
            have HH : Hid (h.data.toList = strT T V qs) := by rw [← hh]; exact rfl
            rw [hg, hh]
            clear hg hh
            have hgs : g.size = h.size := by
              have e1 := SP.out.length_eq
              rw [← HG.out, ← HH.out] at e1
              simpa using e1
            have hlt : g.size ≤ 1099511627776 := by
              have e1 := LG.out
              rw [← HG.out] at e1
              simpa using e1
            have hlt2 : h.size ≤ 1099511627776 := by omega
            have HC : Hid (histC g.data.toList = histC h.data.toList) := by rw [HG.out, HH.out]; exact histC_perm SP.out
            have G1 := hide hlt
            have G2 := hide hlt2
            have hne : ((g.size : Int) != (h.size : Int)) = false := by rw [hgs]; simp
            clear hlt hlt2 hgs
            go_wp2_with fail
            refine (hist_any g w6 G1.out).mono ?_
            rintro e w7 ⟨rfl, hb7⟩
            have B7 := hide (B6.out.trans (hb7.mono B6.out.size))
            clear hb7 B6
            have hgr : (w7.alloc (Obj.cells Tryf.zeroCells34 34)).heap[w7.heap.size]? = some (.cells Tryf.zeroCells34 34 (0, 0)) := heap_alloc_new _ _
            have hsz0 : Tryf.zeroCells34.size = (histC g.data.toList).size := by rw [histC_size, histC_nil, histC_size]
            go_wp2_with (first
              | (refine wpList_store_row rfl 34 (.tmp 10) (.tmp 60) rfl w7.heap.size (histC g.data.toList) rfl rfl 34 Tryf.zeroCells34 hgr (by rw [histC_size]; kernel_rfl) hsz0 (histC_one _) ?_)
              | (go_at_call 13; fail))
            have K8 : Hid (Blk ((w7.alloc (Obj.cells Tryf.zeroCells34 34)).setRow w7.heap.size (histC g.data.toList)) w7.heap.size (histC g.data.toList) 34) := setRow_heap _ _ _ _ 34 _ hgr
            have B8 : Hid (Below w.heap.size w ((w7.alloc (Obj.cells Tryf.zeroCells34 34)).setRow w7.heap.size (histC g.data.toList))) := below_setRow (B7.out.alloc B7.out.size _) B7.out.size _
            clear hgr hsz0
            generalize ((w7.alloc (Obj.cells Tryf.zeroCells34 34)).setRow w7.heap.size (histC g.data.toList)) = w8 at K8 B8 ⊢
            generalize w7.heap.size = r1 at K8 ⊢
            clear B7
            refine (hist_any h w8 G2.out).mono ?_
            rintro e w9 ⟨rfl, hb9⟩
            have K9 := hide (K8.out.below hb9 K8.out.lt)
            have B9 := hide (B8.out.trans (hb9.mono B8.out.size))
            clear hb9 B8 K8
            have hgr : (w9.alloc (Obj.cells Tryf.zeroCells34 34)).heap[w9.heap.size]? = some (.cells Tryf.zeroCells34 34 (0, 0)) := heap_alloc_new _ _
            have hsz0 : Tryf.zeroCells34.size = (histC h.data.toList).size := by rw [histC_size, histC_nil, histC_size]
            go_wp2_with (refine wpList_store_row rfl 34 (.tmp 11) (.tmp 62) rfl w9.heap.size (histC h.data.toList) rfl rfl 34 Tryf.zeroCells34 hgr (by rw [histC_size]; kernel_rfl) hsz0 (histC_one _) ?_)
            have KA : Hid (Blk ((w9.alloc (Obj.cells Tryf.zeroCells34 34)).setRow w9.heap.size (histC h.data.toList)) w9.heap.size (histC g.data.toList) 34) := by rw [HC.out]; exact setRow_heap _ _ _ _ 34 _ hgr
            have KB : Hid (Blk ((w9.alloc (Obj.cells Tryf.zeroCells34 34)).setRow w9.heap.size (histC h.data.toList)) r1 (histC g.data.toList) 34) := by
              have hr := K9.out.lt
              exact (K9.out.alloc _).of_eq (setRow_other _ _ _ _ (by omega))
            have BA : Hid (Below w.heap.size w ((w9.alloc (Obj.cells Tryf.zeroCells34 34)).setRow w9.heap.size (histC h.data.toList))) := below_setRow (B9.out.alloc B9.out.size _) B9.out.size _
            clear hgr hsz0 K9
            generalize ((w9.alloc (Obj.cells Tryf.zeroCells34 34)).setRow w9.heap.size (histC h.data.toList)) = wa at KA KB BA ⊢
            generalize w9.heap.size = r2 at KA ⊢
            clear B9
            go_loopw [12] (fun ix wr => ∃ (k q : Nat), k ≤ 256 ∧ ix = .int .i64 k ∧ wr = wa.drewN q) (fun ix _ => 256 - (intOf ix).toNat)
            case atStart => exact ⟨0, 0, Nat.zero_le _, rfl, rfl⟩
            case round =>
              obtain ⟨k, q, hk, rfl, rfl⟩ := hrel
              by_cases hkl : k < 256
              · obtain ⟨v, hv⟩ : ∃ v : Int, (histC g.data.toList)[k]? = some (.int .i64 v) := by
                  unfold histC
                  rw [Array.getElem?_ofFn, dif_pos hkl]
                  exact ⟨_, rfl⟩
                have hc1 : wa.cell? ⟨r1, k, none⟩ = some (.int .i64 v) := KB.out.at hv
                have hc2 : wa.cell? ⟨r2, k, none⟩ = some (.int .i64 v) := KA.out.at hv
                have hl1 : r1 < wa.heap.size := KB.out.lt
                have hl2 : r2 < wa.heap.size := KA.out.lt
                have hne2 : (v != v) = false := by simp
                have hkd : decide ((k : Int) < 256) = true := by simp; omega
                clear hv
                go_wp2
                go_quiet (fail)
                go_wp2
                go_roundw
                case rel => exact ⟨k + 1, _, by omega, by go_num, rfl⟩
                case measure => simp [intOf]; omega
              · have hkd : decide ((k : Int) < 256) = false := by simp; omega
                go_wp2
                go_ret
                exact ⟨rfl, BA.out.trans ⟨rfl, rfl, rfl, Nat.le_refl _, fun _ _ => rfl⟩⟩
        · go_wp2
          go_ret
          exact ⟨rfl, Below.refl _ _⟩
      · go_wp2
        go_ret
        exact ⟨rfl, Below.refl _ _⟩
    · go_wp2
      go_ret
      exact ⟨rfl, Below.refl _ _⟩
end Go.Proofs.YtdmmiiniikdapaaFmt.fnImmutableMapStringAgreesWithCopy
