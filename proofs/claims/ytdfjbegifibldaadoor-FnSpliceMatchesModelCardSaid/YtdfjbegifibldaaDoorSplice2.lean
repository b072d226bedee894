/- builtinSplice with two arguments. Conditions: at most 2^20 elements; the array and its row are the caller's own; the start lies in the array. -/
import Derived.Test.YtdfjbegifibldaaDoorSplice
namespace Go.Proofs.YtdfjbegifibldaaDoor
open Go.RowKit
attribute [local go_sem] ta_int_ok ta_arr_ok

set_option maxRecDepth 100000 in
set_option maxHeartbeats 4000000 in
theorem splice2_any (base B ab n c g ib st : Nat) (Aa : Option Addr) (ca : Nat) (vs : List Value) (zs : List Int) (w : World) (hblk : Blk w ab #[.slice (some ⟨g, 0, none⟩) n c] 36) (hown : w.ownsRow base 41 1 (.slice (some ⟨g, 0, none⟩) n c) n vs) (hobj : Objs w B vs zs) (hbase : base ≤ w.heap.size) (hab : base ≤ ab)
    (hargs : SlIn w w.heap.size Aa 2 ca [.iface 30 (.pointer (some ⟨ab, 0, none⟩)), .iface 37 (.pointer (some ⟨ib, 0, none⟩))]) (hint : Blk w ib #[.int .i64 (st : Int)] 39) (hn : n ≤ 1048576) (hst : st ≤ n) :
    Calls Tryd.prog 12 #[.slice Aa 2 ca] w (SpliceOk base B ab (n - st) st (zs.drop st) (zs.take st) w) := by
  obtain ⟨i, hi, hz0, hz1, hz2⟩ := info_parts info_obj
  have hcell := hblk.at (i := 0) (v := .slice (some ⟨g, 0, none⟩) n c) rfl
  have HL : Hid (vs.length = n) := by have := hown.1; show vs.length = n; simpa using this
  have HO := hide hown
  have HK := hide hblk
  have HV := hide hobj
  have HS := hide (SlIn.of_own hown)
  have hle := HS.out.le
  have htop := HS.out.top
  unfold maxLen at htop
  have hlt := hblk.lt
  obtain ⟨ba, oa, u, hAa, hba, hu, hcu⟩ := hargs.cell (k := 0) (by omega)
  subst hAa
  simp at hu
  subst hu
  rw [Nat.add_zero] at hcu
  obtain ⟨ba', oa', u', hAa', _, hu', hcu'⟩ := hargs.cell (k := 1) (by omega)
  simp only [Option.some.injEq, Addr.mk.injEq, and_true] at hAa'
  obtain ⟨rfl, rfl⟩ := hAa'
  simp at hu'
  subst hu'
  have hi1 := hint.at (i := 0) (v := .int .i64 (st : Int)) rfl
  clear hown hblk hobj hargs
  clear hint
  have OT := hide (HV.out.drop n).ones
  by_cases hs0 : st = 0
  · subst hs0
    have SD := HS
    have OD := hide HV.out.ones
    by_cases hc : c = n
    · by_cases h0 : n = 0
      · subst h0
        obtain rfl : c = 0 := hc
        obtain rfl : vs = [] := List.eq_nil_of_length_eq_zero HL.out
        obtain rfl : zs = [] := List.eq_nil_of_length_eq_zero (by rw [← HV.out.len]; rfl)
        have hfr := HK.out.free 0
        have Z := hide (splice_zero hbase hab HK.out B)
        go_enter Tryd.func12, Tryd.ntmps12
        go_wp2
        go_ret2
        exact ⟨_, rfl, Z.out⟩
      · have ST := hide (HS.out.cut_end (Nat.le_refl n) hc)
        obtain rfl : n = c := hc.symm
        go_enter Tryd.func12, Tryd.ntmps12
        go_wp2_with (first | (at_builtin; refine wpList_append_in _ rfl _ _ 31 31 rfl w.heap.size 41 41 i .nilIface 16 Tryd.underlying31 Tryd.underlying31 hi hz0 hz1 hz2 rfl _ 0 [] rfl (own_empty w) w.heap.size _ _ _ vs rfl (SlIn.congr (SD.out.alloc (Nat.le_refl _) _) (by first | rfl | (simp [Addr.add_lit]; done) | (simp [Addr.add_lit]; omega)) (by first | rfl | omega) (by first | rfl | omega)) OD.out (by unfold maxLen; omega) (by omega) (by simp) ?_; intro A1 c1 w2 hown hgrow; have O2 := hide (own_len hown (show _ = n by omega)); have B2 : Hid (Below w.heap.size w w2) := (((Below.refl w.heap.size w).alloc (Nat.le_refl _) _).grown hgrow (by simp) (fun k hk => (own_empty w |>.lt k hk).1)); have V2 := hide ((HV.out.alloc (.cells #[] 41)).grown (own_empty w) (by decide) hgrow); have hcell2 := (HK.out.below B2.out hlt).at (i := 0) (v := .slice (some ⟨g, 0, none⟩) n n) rfl; have ST2 := hide ((ST.out.below B2.out (Nat.le_refl _)).mono B2.out.size); have hs2 := B2.out.size; clear hown hgrow) | (at_builtin; refine wpList_append_in _ rfl _ _ 31 31 rfl w2.heap.size 41 41 i .nilIface 16 Tryd.underlying31 Tryd.underlying31 hi hz0 hz1 hz2 rfl _ 0 [] rfl (World.ownsRow_nil _ _ _ _) w2.heap.size _ _ _ (vs.drop n) rfl (SlIn.congr (ST2.out) (by first | rfl | (simp [Addr.add_lit]; done) | (simp [Addr.add_lit]; omega)) (by first | rfl | omega) (by first | rfl | omega)) OT.out (by unfold maxLen; omega) (by omega) (Nat.le_refl _) ?_; intro A3 c3 w3 hown hgrow; have O3 := hide (SlIn.of_own hown); have B3 := hide ((Below.refl w2.heap.size w2).grown hgrow (Nat.le_refl _) (fun k hk => by cases hk)); have V3 := hide (V2.out.below B3.out); have HO3 := hide (own_pre (own_below HO.out (B2.out.trans (B3.out.mono B2.out.size))) (k := 0) (by omega)); have hs3 := B3.out.size; clear hown hgrow; have VD := hide (V3.out); have VL := hide ((V3.out.take 0).append ((Objs.nil _ _).append (V3.out.drop n)))) | (at_builtin; refine wpList_append_in _ rfl _ _ 31 31 rfl base 41 41 i .nilIface 16 Tryd.underlying31 Tryd.underlying31 hi hz0 hz1 hz2 rfl _ 0 (vs.take 0) rfl HO3.out w3.heap.size _ _ _ ([] ++ (vs.drop n)) rfl (SlIn.congr (O3.out) (by first | rfl | (simp [Addr.add_lit]; done) | (simp [Addr.add_lit]; omega)) (by first | rfl | omega) (by first | rfl | omega)) OT.out (by unfold maxLen; omega) (by omega) (by omega) ?_; intro A4 c4 w4 hown hgrow; have R := splice_mem HK.out HO.out hbase hab (show 0 ≤ n by omega) (B2.out.trans (B3.out.mono B2.out.size)) (own_below O2.out B3.out) VD.out (own_len hown (show _ = 0 by omega)) hgrow (VL.out); have r1 := R.1; have r2 := R.2.1; have RR := hide R.2.2; clear R hown hgrow))
        go_ret2
        exact ⟨_, rfl, RR.out.cast (by omega) (by omega) rfl (by rw [List.drop_of_length_le (by have := HL.out; have h2 := HV.out.len; omega)]; simp)⟩
    · have ST := hide (HS.out.cut_in (Nat.le_refl n) hc)
      go_enter Tryd.func12, Tryd.ntmps12
      go_wp2_with (first | (at_builtin; refine wpList_append_in _ rfl _ _ 31 31 rfl w.heap.size 41 41 i .nilIface 16 Tryd.underlying31 Tryd.underlying31 hi hz0 hz1 hz2 rfl _ 0 [] rfl (own_empty w) w.heap.size _ _ _ vs rfl (SlIn.congr (SD.out.alloc (Nat.le_refl _) _) (by first | rfl | (simp [Addr.add_lit]; done) | (simp [Addr.add_lit]; omega)) (by first | rfl | omega) (by first | rfl | omega)) OD.out (by unfold maxLen; omega) (by omega) (by simp) ?_; intro A1 c1 w2 hown hgrow; have O2 := hide (own_len hown (show _ = n by omega)); have B2 : Hid (Below w.heap.size w w2) := (((Below.refl w.heap.size w).alloc (Nat.le_refl _) _).grown hgrow (by simp) (fun k hk => (own_empty w |>.lt k hk).1)); have V2 := hide ((HV.out.alloc (.cells #[] 41)).grown (own_empty w) (by decide) hgrow); have hcell2 := (HK.out.below B2.out hlt).at (i := 0) (v := .slice (some ⟨g, 0, none⟩) n c) rfl; have ST2 := hide ((ST.out.below B2.out (Nat.le_refl _)).mono B2.out.size); have hs2 := B2.out.size; clear hown hgrow) | (at_builtin; refine wpList_append_in _ rfl _ _ 31 31 rfl w2.heap.size 41 41 i .nilIface 16 Tryd.underlying31 Tryd.underlying31 hi hz0 hz1 hz2 rfl _ 0 [] rfl (World.ownsRow_nil _ _ _ _) w2.heap.size _ _ _ (vs.drop n) rfl (SlIn.congr (ST2.out) (by first | rfl | (simp [Addr.add_lit]; done) | (simp [Addr.add_lit]; omega)) (by first | rfl | omega) (by first | rfl | omega)) OT.out (by unfold maxLen; omega) (by omega) (Nat.le_refl _) ?_; intro A3 c3 w3 hown hgrow; have O3 := hide (SlIn.of_own hown); have B3 := hide ((Below.refl w2.heap.size w2).grown hgrow (Nat.le_refl _) (fun k hk => by cases hk)); have V3 := hide (V2.out.below B3.out); have HO3 := hide (own_pre (own_below HO.out (B2.out.trans (B3.out.mono B2.out.size))) (k := 0) (by omega)); have hs3 := B3.out.size; clear hown hgrow; have VD := hide (V3.out); have VL := hide ((V3.out.take 0).append ((Objs.nil _ _).append (V3.out.drop n)))) | (at_builtin; refine wpList_append_in _ rfl _ _ 31 31 rfl base 41 41 i .nilIface 16 Tryd.underlying31 Tryd.underlying31 hi hz0 hz1 hz2 rfl _ 0 (vs.take 0) rfl HO3.out w3.heap.size _ _ _ ([] ++ (vs.drop n)) rfl (SlIn.congr (O3.out) (by first | rfl | (simp [Addr.add_lit]; done) | (simp [Addr.add_lit]; omega)) (by first | rfl | omega) (by first | rfl | omega)) OT.out (by unfold maxLen; omega) (by omega) (by omega) ?_; intro A4 c4 w4 hown hgrow; have R := splice_mem HK.out HO.out hbase hab (show 0 ≤ n by omega) (B2.out.trans (B3.out.mono B2.out.size)) (own_below O2.out B3.out) VD.out (own_len hown (show _ = 0 by omega)) hgrow (VL.out); have r1 := R.1; have r2 := R.2.1; have RR := hide R.2.2; clear R hown hgrow))
      go_ret2
      exact ⟨_, rfl, RR.out.cast (by omega) (by omega) rfl (by rw [List.drop_of_length_le (by have := HL.out; have h2 := HV.out.len; omega)]; simp)⟩
  · have OD := hide (HV.out.drop st).ones
    have hs1 : 0 < st := by omega
    by_cases hc : c = n
    · by_cases h0 : st = n
      · have ST := hide (HS.out.cut_end (Nat.le_refl n) hc)
        have SD := hide (HS.out.cut_end hst (hc.trans h0.symm))
        obtain rfl : n = c := hc.symm
        obtain rfl : n = st := h0.symm
        go_enter Tryd.func12, Tryd.ntmps12
        go_wp2_with (first | (at_builtin; refine wpList_append_in _ rfl _ _ 31 31 rfl w.heap.size 41 41 i .nilIface 16 Tryd.underlying31 Tryd.underlying31 hi hz0 hz1 hz2 rfl _ 0 [] rfl (own_empty w) w.heap.size _ _ _ (vs.drop n) rfl (SlIn.congr (SD.out.alloc (Nat.le_refl _) _) (by first | rfl | (simp [Addr.add_lit]; done) | (simp [Addr.add_lit]; omega)) (by first | rfl | omega) (by first | rfl | omega)) OD.out (by unfold maxLen; omega) (by omega) (by simp) ?_; intro A1 c1 w2 hown hgrow; have O2 := hide (own_len hown (show _ = 0 by omega)); have B2 : Hid (Below w.heap.size w w2) := (((Below.refl w.heap.size w).alloc (Nat.le_refl _) _).grown hgrow (by simp) (fun k hk => (own_empty w |>.lt k hk).1)); have V2 := hide ((HV.out.alloc (.cells #[] 41)).grown (own_empty w) (by decide) hgrow); have hcell2 := (HK.out.below B2.out hlt).at (i := 0) (v := .slice (some ⟨g, 0, none⟩) n n) rfl; have ST2 := hide ((ST.out.below B2.out (Nat.le_refl _)).mono B2.out.size); have hs2 := B2.out.size; clear hown hgrow) | (at_builtin; refine wpList_append_in _ rfl _ _ 31 31 rfl w2.heap.size 41 41 i .nilIface 16 Tryd.underlying31 Tryd.underlying31 hi hz0 hz1 hz2 rfl _ 0 [] rfl (World.ownsRow_nil _ _ _ _) w2.heap.size _ _ _ (vs.drop n) rfl (SlIn.congr (ST2.out) (by first | rfl | (simp [Addr.add_lit]; done) | (simp [Addr.add_lit]; omega)) (by first | rfl | omega) (by first | rfl | omega)) OT.out (by unfold maxLen; omega) (by omega) (Nat.le_refl _) ?_; intro A3 c3 w3 hown hgrow; have O3 := hide (SlIn.of_own hown); have B3 := hide ((Below.refl w2.heap.size w2).grown hgrow (Nat.le_refl _) (fun k hk => by cases hk)); have V3 := hide (V2.out.below B3.out); have HO3 := hide (own_pre (own_below HO.out (B2.out.trans (B3.out.mono B2.out.size))) (k := n) (by omega)); have hs3 := B3.out.size; clear hown hgrow; have VD := hide (V3.out.drop n); have VL := hide ((V3.out.take n).append ((Objs.nil _ _).append (V3.out.drop n)))) | (at_builtin; refine wpList_append_in _ rfl _ _ 31 31 rfl base 41 41 i .nilIface 16 Tryd.underlying31 Tryd.underlying31 hi hz0 hz1 hz2 rfl _ n (vs.take n) rfl HO3.out w3.heap.size _ _ _ ([] ++ (vs.drop n)) rfl (SlIn.congr (O3.out) (by first | rfl | (simp [Addr.add_lit]; done) | (simp [Addr.add_lit]; omega)) (by first | rfl | omega) (by first | rfl | omega)) OT.out (by unfold maxLen; omega) (by omega) (by omega) ?_; intro A4 c4 w4 hown hgrow; have R := splice_mem HK.out HO.out hbase hab (show n ≤ n by omega) (B2.out.trans (B3.out.mono B2.out.size)) (own_below O2.out B3.out) VD.out (own_len hown (show _ = n by omega)) hgrow (VL.out); have r1 := R.1; have r2 := R.2.1; have RR := hide R.2.2; clear R hown hgrow))
        go_ret2
        exact ⟨_, rfl, RR.out.cast (by omega) (by omega) rfl (by rw [List.drop_of_length_le (by have := HL.out; have h2 := HV.out.len; omega)]; simp)⟩
      · have ST := hide (HS.out.cut_end (Nat.le_refl n) hc)
        have SD := hide (HS.out.cut_in hst (by omega))
        obtain rfl : n = c := hc.symm
        go_enter Tryd.func12, Tryd.ntmps12
        go_wp2_with (first | (at_builtin; refine wpList_append_in _ rfl _ _ 31 31 rfl w.heap.size 41 41 i .nilIface 16 Tryd.underlying31 Tryd.underlying31 hi hz0 hz1 hz2 rfl _ 0 [] rfl (own_empty w) w.heap.size _ _ _ (vs.drop st) rfl (SlIn.congr (SD.out.alloc (Nat.le_refl _) _) (by first | rfl | (simp [Addr.add_lit]; done) | (simp [Addr.add_lit]; omega)) (by first | rfl | omega) (by first | rfl | omega)) OD.out (by unfold maxLen; omega) (by omega) (by simp) ?_; intro A1 c1 w2 hown hgrow; have O2 := hide (own_len hown (show _ = (n - st) by omega)); have B2 : Hid (Below w.heap.size w w2) := (((Below.refl w.heap.size w).alloc (Nat.le_refl _) _).grown hgrow (by simp) (fun k hk => (own_empty w |>.lt k hk).1)); have V2 := hide ((HV.out.alloc (.cells #[] 41)).grown (own_empty w) (by decide) hgrow); have hcell2 := (HK.out.below B2.out hlt).at (i := 0) (v := .slice (some ⟨g, 0, none⟩) n n) rfl; have ST2 := hide ((ST.out.below B2.out (Nat.le_refl _)).mono B2.out.size); have hs2 := B2.out.size; clear hown hgrow) | (at_builtin; refine wpList_append_in _ rfl _ _ 31 31 rfl w2.heap.size 41 41 i .nilIface 16 Tryd.underlying31 Tryd.underlying31 hi hz0 hz1 hz2 rfl _ 0 [] rfl (World.ownsRow_nil _ _ _ _) w2.heap.size _ _ _ (vs.drop n) rfl (SlIn.congr (ST2.out) (by first | rfl | (simp [Addr.add_lit]; done) | (simp [Addr.add_lit]; omega)) (by first | rfl | omega) (by first | rfl | omega)) OT.out (by unfold maxLen; omega) (by omega) (Nat.le_refl _) ?_; intro A3 c3 w3 hown hgrow; have O3 := hide (SlIn.of_own hown); have B3 := hide ((Below.refl w2.heap.size w2).grown hgrow (Nat.le_refl _) (fun k hk => by cases hk)); have V3 := hide (V2.out.below B3.out); have HO3 := hide (own_pre (own_below HO.out (B2.out.trans (B3.out.mono B2.out.size))) (k := st) (by omega)); have hs3 := B3.out.size; clear hown hgrow; have VD := hide (V3.out.drop st); have VL := hide ((V3.out.take st).append ((Objs.nil _ _).append (V3.out.drop n)))) | (at_builtin; refine wpList_append_in _ rfl _ _ 31 31 rfl base 41 41 i .nilIface 16 Tryd.underlying31 Tryd.underlying31 hi hz0 hz1 hz2 rfl _ st (vs.take st) rfl HO3.out w3.heap.size _ _ _ ([] ++ (vs.drop n)) rfl (SlIn.congr (O3.out) (by first | rfl | (simp [Addr.add_lit]; done) | (simp [Addr.add_lit]; omega)) (by first | rfl | omega) (by first | rfl | omega)) OT.out (by unfold maxLen; omega) (by omega) (by omega) ?_; intro A4 c4 w4 hown hgrow; have R := splice_mem HK.out HO.out hbase hab (show st ≤ n by omega) (B2.out.trans (B3.out.mono B2.out.size)) (own_below O2.out B3.out) VD.out (own_len hown (show _ = st by omega)) hgrow (VL.out); have r1 := R.1; have r2 := R.2.1; have RR := hide R.2.2; clear R hown hgrow))
        go_ret2
        exact ⟨_, rfl, RR.out.cast (by omega) (by omega) rfl (by rw [List.drop_of_length_le (by have := HL.out; have h2 := HV.out.len; omega)]; simp)⟩
    · have ST := hide (HS.out.cut_in (Nat.le_refl n) hc)
      have SD := hide (HS.out.cut_in hst (by omega))
      go_enter Tryd.func12, Tryd.ntmps12
      go_wp2_with (first | (at_builtin; refine wpList_append_in _ rfl _ _ 31 31 rfl w.heap.size 41 41 i .nilIface 16 Tryd.underlying31 Tryd.underlying31 hi hz0 hz1 hz2 rfl _ 0 [] rfl (own_empty w) w.heap.size _ _ _ (vs.drop st) rfl (SlIn.congr (SD.out.alloc (Nat.le_refl _) _) (by first | rfl | (simp [Addr.add_lit]; done) | (simp [Addr.add_lit]; omega)) (by first | rfl | omega) (by first | rfl | omega)) OD.out (by unfold maxLen; omega) (by omega) (by simp) ?_; intro A1 c1 w2 hown hgrow; have O2 := hide (own_len hown (show _ = (n - st) by omega)); have B2 : Hid (Below w.heap.size w w2) := (((Below.refl w.heap.size w).alloc (Nat.le_refl _) _).grown hgrow (by simp) (fun k hk => (own_empty w |>.lt k hk).1)); have V2 := hide ((HV.out.alloc (.cells #[] 41)).grown (own_empty w) (by decide) hgrow); have hcell2 := (HK.out.below B2.out hlt).at (i := 0) (v := .slice (some ⟨g, 0, none⟩) n c) rfl; have ST2 := hide ((ST.out.below B2.out (Nat.le_refl _)).mono B2.out.size); have hs2 := B2.out.size; clear hown hgrow) | (at_builtin; refine wpList_append_in _ rfl _ _ 31 31 rfl w2.heap.size 41 41 i .nilIface 16 Tryd.underlying31 Tryd.underlying31 hi hz0 hz1 hz2 rfl _ 0 [] rfl (World.ownsRow_nil _ _ _ _) w2.heap.size _ _ _ (vs.drop n) rfl (SlIn.congr (ST2.out) (by first | rfl | (simp [Addr.add_lit]; done) | (simp [Addr.add_lit]; omega)) (by first | rfl | omega) (by first | rfl | omega)) OT.out (by unfold maxLen; omega) (by omega) (Nat.le_refl _) ?_; intro A3 c3 w3 hown hgrow; have O3 := hide (SlIn.of_own hown); have B3 := hide ((Below.refl w2.heap.size w2).grown hgrow (Nat.le_refl _) (fun k hk => by cases hk)); have V3 := hide (V2.out.below B3.out); have HO3 := hide (own_pre (own_below HO.out (B2.out.trans (B3.out.mono B2.out.size))) (k := st) (by omega)); have hs3 := B3.out.size; clear hown hgrow; have VD := hide (V3.out.drop st); have VL := hide ((V3.out.take st).append ((Objs.nil _ _).append (V3.out.drop n)))) | (at_builtin; refine wpList_append_in _ rfl _ _ 31 31 rfl base 41 41 i .nilIface 16 Tryd.underlying31 Tryd.underlying31 hi hz0 hz1 hz2 rfl _ st (vs.take st) rfl HO3.out w3.heap.size _ _ _ ([] ++ (vs.drop n)) rfl (SlIn.congr (O3.out) (by first | rfl | (simp [Addr.add_lit]; done) | (simp [Addr.add_lit]; omega)) (by first | rfl | omega) (by first | rfl | omega)) OT.out (by unfold maxLen; omega) (by omega) (by omega) ?_; intro A4 c4 w4 hown hgrow; have R := splice_mem HK.out HO.out hbase hab (show st ≤ n by omega) (B2.out.trans (B3.out.mono B2.out.size)) (own_below O2.out B3.out) VD.out (own_len hown (show _ = st by omega)) hgrow (VL.out); have r1 := R.1; have r2 := R.2.1; have RR := hide R.2.2; clear R hown hgrow))
      go_ret2
      exact ⟨_, rfl, RR.out.cast (by omega) (by omega) rfl (by rw [List.drop_of_length_le (by have := HL.out; have h2 := HV.out.len; omega)]; simp)⟩
end Go.Proofs.YtdfjbegifibldaaDoor
