/- builtinSplice with three arguments and more. Conditions: at most 2^16 elements; the array and its row are the caller's own; the start lies in the array. -/
import Derived.Test.YtdfjbegifibldaaDoorSplice
namespace Go.Proofs.YtdfjbegifibldaaDoor
open Go.RowKit
attribute [local go_sem] ta_int_ok ta_arr_ok

set_option maxRecDepth 100000 in
set_option maxHeartbeats 4000000 in
theorem splice3_none_un (base B ab n c g ib jb st k : Nat) (Aa : Option Addr) (ca : Nat) (vs : List Value) (zs ys : List Int) (w : World) (hblk : Blk w ab #[.slice (some ⟨g, 0, none⟩) n c] 36) (hown : w.ownsRow base 41 1 (.slice (some ⟨g, 0, none⟩) n c) n vs) (hobj : Objs w B vs zs) (hys : ys = []) (hbase : base ≤ w.heap.size) (hab : base ≤ ab)
    (hargs : SlIn w w.heap.size Aa 3 ca (.iface 30 (.pointer (some ⟨ab, 0, none⟩)) :: .iface 37 (.pointer (some ⟨ib, 0, none⟩)) :: .iface 37 (.pointer (some ⟨jb, 0, none⟩)) :: [])) (hint : Blk w ib #[.int .i64 (st : Int)] 39) (hcnt : Blk w jb #[.int .i64 (k : Int)] 39) (hn : n ≤ 65536) (hst : st ≤ n) (hk : k ≤ 4611686018427387904) (hun : st + k ≤ n) :
    Calls Tryd.prog 12 #[.slice Aa 3 ca] w (SpliceOk base B ab (k) (st + (ys.length + (n - (st + k)))) ((zs.drop st).take (k)) (zs.take st ++ (ys ++ zs.drop (st + k))) w) := by
  subst hys
  obtain ⟨i, hi, hz0, hz1, hz2⟩ := info_parts info_obj
  have hcell := hblk.at (i := 0) (v := .slice (some ⟨g, 0, none⟩) n c) rfl
  have HL : Hid (vs.length = n) := by have := hown.1; show vs.length = n; simpa using this
  have HO := hide hown
  have HK := hide hblk
  have HV := hide hobj
  have HS := hide (SlIn.of_own hown)
  have hle := HS.out.le
  have htop := HS.out.top
  unfold maxLen at htop
  have hlt := hblk.lt
  obtain ⟨ba, oa, u, hAa, hba, hu, hcu⟩ := hargs.cell (k := 0) (by omega)
  subst hAa
  simp at hu
  subst hu
  rw [Nat.add_zero] at hcu
  obtain ⟨ba', oa', u', hAa', _, hu', hcu'⟩ := hargs.cell (k := 1) (by omega)
  simp only [Option.some.injEq, Addr.mk.injEq, and_true] at hAa'
  obtain ⟨rfl, rfl⟩ := hAa'
  simp at hu'
  subst hu'
  obtain ⟨ba', oa', u', hAa', _, hu', hcu2⟩ := hargs.cell (k := 2) (by omega)
  simp only [Option.some.injEq, Addr.mk.injEq, and_true] at hAa'
  obtain ⟨rfl, rfl⟩ := hAa'
  simp at hu'
  subst hu'
  have hi1 := hint.at (i := 0) (v := .int .i64 (st : Int)) rfl
  have hi2 := hcnt.at (i := 0) (v := .int .i64 (k : Int)) rfl
  clear hown hblk hobj hargs
  clear hint hcnt
  have OD := hide ((HV.out.drop st).take k).ones
  have OT := hide (HV.out.drop (st + k)).ones
  by_cases hc : c = st
  · have ST := hide (HS.out.cut_end (k := st + k) (by omega) (by omega))
    have SD := hide ((HS.out.cut_end (k := st) hst hc).pre (k := k) (by omega))
    obtain rfl : n = c := by omega
    obtain rfl : n = st := by omega
    obtain rfl : k = 0 := by omega
    go_enter Tryd.func12, Tryd.ntmps12
    go_wp2_with (first | (at_builtin; refine wpList_append_in _ rfl _ _ 31 31 rfl w.heap.size 41 41 i .nilIface 16 Tryd.underlying31 Tryd.underlying31 hi hz0 hz1 hz2 rfl _ 0 [] rfl (own_empty w) w.heap.size _ _ _ ((vs.drop n).take 0) rfl (SlIn.congr (SD.out.alloc (Nat.le_refl _) _) (by first | rfl | (simp [Addr.add_lit]; done) | (simp [Addr.add_lit]; omega)) (by first | rfl | omega) (by first | rfl | omega)) OD.out (by unfold maxLen; omega) (by omega) (by simp) ?_; intro A1 c1 w2 hown hgrow; have O2 := hide (own_len hown (show _ = 0 by omega)); have B2 : Hid (Below w.heap.size w w2) := (((Below.refl w.heap.size w).alloc (Nat.le_refl _) _).grown hgrow (by simp) (fun k hk => (own_empty w |>.lt k hk).1)); have V2 := hide ((HV.out.alloc (.cells #[] 41)).grown (own_empty w) (by decide) hgrow); have hcell2 := (HK.out.below B2.out hlt).at (i := 0) (v := .slice (some ⟨g, 0, none⟩) n n) rfl; have ST2 := hide ((ST.out.below B2.out (Nat.le_refl _)).mono B2.out.size); have hs2 := B2.out.size; clear hown hgrow) | (at_builtin; refine wpList_append_in _ rfl _ _ 31 31 rfl w2.heap.size 41 41 i .nilIface 16 Tryd.underlying31 Tryd.underlying31 hi hz0 hz1 hz2 rfl _ 0 [] rfl (World.ownsRow_nil _ _ _ _) w2.heap.size _ _ _ (vs.drop (n + 0)) rfl (SlIn.congr (ST2.out) (by first | rfl | (simp [Addr.add_lit]; done) | (simp [Addr.add_lit]; omega)) (by first | rfl | omega) (by first | rfl | omega)) OT.out (by unfold maxLen; omega) (by omega) (Nat.le_refl _) ?_; intro A3 c3 w3 hown hgrow; have O3 := hide (SlIn.of_own hown); have B3 := hide ((Below.refl w2.heap.size w2).grown hgrow (Nat.le_refl _) (fun k hk => by cases hk)); have V3 := hide (V2.out.below B3.out); have HO3 := hide (own_pre (own_below HO.out (B2.out.trans (B3.out.mono B2.out.size))) (k := n) (by omega)); have hs3 := B3.out.size; clear hown hgrow; have VD := hide ((V3.out.drop n).take 0); have VL := hide ((V3.out.take n).append ((Objs.nil _ _).append (V3.out.drop (n + 0))))) | (at_builtin; refine wpList_append_in _ rfl _ _ 31 31 rfl base 41 41 i .nilIface 16 Tryd.underlying31 Tryd.underlying31 hi hz0 hz1 hz2 rfl _ n (vs.take n) rfl HO3.out w3.heap.size _ _ _ ([] ++ (vs.drop (n + 0))) rfl (SlIn.congr (O3.out) (by first | rfl | (simp [Addr.add_lit]; done) | (simp [Addr.add_lit]; omega)) (by first | rfl | omega) (by first | rfl | omega)) OT.out (by unfold maxLen; omega) (by omega) (by omega) ?_; intro A4 c4 w4 hown hgrow; have R := splice_mem HK.out HO.out hbase hab (show n ≤ n by omega) (B2.out.trans (B3.out.mono B2.out.size)) (own_below O2.out B3.out) VD.out (own_len hown (show _ = n by omega)) hgrow (VL.out); have r1 := R.1; have r2 := R.2.1; have RR := hide R.2.2; clear R hown hgrow))
    go_ret2
    exact ⟨_, rfl, RR.out.cast (by omega) (by omega) rfl (by simp)⟩
  · by_cases hc2 : c = st + k
    · have ST := hide (HS.out.cut_end (k := st + k) (by omega) hc2)
      have SD := hide ((HS.out.cut_in (k := st) hst hc).pre (k := k) (by omega))
      obtain rfl : n = c := by omega
      subst hc2
      go_enter Tryd.func12, Tryd.ntmps12
      go_wp2_with (first | (at_builtin; refine wpList_append_in _ rfl _ _ 31 31 rfl w.heap.size 41 41 i .nilIface 16 Tryd.underlying31 Tryd.underlying31 hi hz0 hz1 hz2 rfl _ 0 [] rfl (own_empty w) w.heap.size _ _ _ ((vs.drop st).take k) rfl (SlIn.congr (SD.out.alloc (Nat.le_refl _) _) (by first | rfl | (simp [Addr.add_lit]; done) | (simp [Addr.add_lit]; omega)) (by first | rfl | omega) (by first | rfl | omega)) OD.out (by unfold maxLen; omega) (by omega) (by simp) ?_; intro A1 c1 w2 hown hgrow; have O2 := hide (own_len hown (show _ = k by omega)); have B2 : Hid (Below w.heap.size w w2) := (((Below.refl w.heap.size w).alloc (Nat.le_refl _) _).grown hgrow (by simp) (fun k hk => (own_empty w |>.lt k hk).1)); have V2 := hide ((HV.out.alloc (.cells #[] 41)).grown (own_empty w) (by decide) hgrow); have hcell2 := (HK.out.below B2.out hlt).at (i := 0) (v := .slice (some ⟨g, 0, none⟩) (st + k) (st + k)) rfl; have ST2 := hide ((ST.out.below B2.out (Nat.le_refl _)).mono B2.out.size); have hs2 := B2.out.size; clear hown hgrow) | (at_builtin; refine wpList_append_in _ rfl _ _ 31 31 rfl w2.heap.size 41 41 i .nilIface 16 Tryd.underlying31 Tryd.underlying31 hi hz0 hz1 hz2 rfl _ 0 [] rfl (World.ownsRow_nil _ _ _ _) w2.heap.size _ _ _ (vs.drop (st + k)) rfl (SlIn.congr (ST2.out) (by first | rfl | (simp [Addr.add_lit]; done) | (simp [Addr.add_lit]; omega)) (by first | rfl | omega) (by first | rfl | omega)) OT.out (by unfold maxLen; omega) (by omega) (Nat.le_refl _) ?_; intro A3 c3 w3 hown hgrow; have O3 := hide (SlIn.of_own hown); have B3 := hide ((Below.refl w2.heap.size w2).grown hgrow (Nat.le_refl _) (fun k hk => by cases hk)); have V3 := hide (V2.out.below B3.out); have HO3 := hide (own_pre (own_below HO.out (B2.out.trans (B3.out.mono B2.out.size))) (k := st) (by omega)); have hs3 := B3.out.size; clear hown hgrow; have VD := hide ((V3.out.drop st).take k); have VL := hide ((V3.out.take st).append ((Objs.nil _ _).append (V3.out.drop (st + k))))) | (at_builtin; refine wpList_append_in _ rfl _ _ 31 31 rfl base 41 41 i .nilIface 16 Tryd.underlying31 Tryd.underlying31 hi hz0 hz1 hz2 rfl _ st (vs.take st) rfl HO3.out w3.heap.size _ _ _ ([] ++ (vs.drop (st + k))) rfl (SlIn.congr (O3.out) (by first | rfl | (simp [Addr.add_lit]; done) | (simp [Addr.add_lit]; omega)) (by first | rfl | omega) (by first | rfl | omega)) OT.out (by unfold maxLen; omega) (by omega) (by omega) ?_; intro A4 c4 w4 hown hgrow; have R := splice_mem HK.out HO.out hbase hab (show st ≤ st + k by omega) (B2.out.trans (B3.out.mono B2.out.size)) (own_below O2.out B3.out) VD.out (own_len hown (show _ = st by omega)) hgrow (VL.out); have r1 := R.1; have r2 := R.2.1; have RR := hide R.2.2; clear R hown hgrow))
      go_ret2
      exact ⟨_, rfl, RR.out.cast (by omega) (by omega) rfl (by simp)⟩
    · have ST := hide (HS.out.cut_in (k := st + k) (by omega) hc2)
      have SD := hide ((HS.out.cut_in (k := st) hst hc).pre (k := k) (by omega))
      go_enter Tryd.func12, Tryd.ntmps12
      go_wp2_with (first | (at_builtin; refine wpList_append_in _ rfl _ _ 31 31 rfl w.heap.size 41 41 i .nilIface 16 Tryd.underlying31 Tryd.underlying31 hi hz0 hz1 hz2 rfl _ 0 [] rfl (own_empty w) w.heap.size _ _ _ ((vs.drop st).take k) rfl (SlIn.congr (SD.out.alloc (Nat.le_refl _) _) (by first | rfl | (simp [Addr.add_lit]; done) | (simp [Addr.add_lit]; omega)) (by first | rfl | omega) (by first | rfl | omega)) OD.out (by unfold maxLen; omega) (by omega) (by simp) ?_; intro A1 c1 w2 hown hgrow; have O2 := hide (own_len hown (show _ = k by omega)); have B2 : Hid (Below w.heap.size w w2) := (((Below.refl w.heap.size w).alloc (Nat.le_refl _) _).grown hgrow (by simp) (fun k hk => (own_empty w |>.lt k hk).1)); have V2 := hide ((HV.out.alloc (.cells #[] 41)).grown (own_empty w) (by decide) hgrow); have hcell2 := (HK.out.below B2.out hlt).at (i := 0) (v := .slice (some ⟨g, 0, none⟩) n c) rfl; have ST2 := hide ((ST.out.below B2.out (Nat.le_refl _)).mono B2.out.size); have hs2 := B2.out.size; clear hown hgrow) | (at_builtin; refine wpList_append_in _ rfl _ _ 31 31 rfl w2.heap.size 41 41 i .nilIface 16 Tryd.underlying31 Tryd.underlying31 hi hz0 hz1 hz2 rfl _ 0 [] rfl (World.ownsRow_nil _ _ _ _) w2.heap.size _ _ _ (vs.drop (st + k)) rfl (SlIn.congr (ST2.out) (by first | rfl | (simp [Addr.add_lit]; done) | (simp [Addr.add_lit]; omega)) (by first | rfl | omega) (by first | rfl | omega)) OT.out (by unfold maxLen; omega) (by omega) (Nat.le_refl _) ?_; intro A3 c3 w3 hown hgrow; have O3 := hide (SlIn.of_own hown); have B3 := hide ((Below.refl w2.heap.size w2).grown hgrow (Nat.le_refl _) (fun k hk => by cases hk)); have V3 := hide (V2.out.below B3.out); have HO3 := hide (own_pre (own_below HO.out (B2.out.trans (B3.out.mono B2.out.size))) (k := st) (by omega)); have hs3 := B3.out.size; clear hown hgrow; have VD := hide ((V3.out.drop st).take k); have VL := hide ((V3.out.take st).append ((Objs.nil _ _).append (V3.out.drop (st + k))))) | (at_builtin; refine wpList_append_in _ rfl _ _ 31 31 rfl base 41 41 i .nilIface 16 Tryd.underlying31 Tryd.underlying31 hi hz0 hz1 hz2 rfl _ st (vs.take st) rfl HO3.out w3.heap.size _ _ _ ([] ++ (vs.drop (st + k))) rfl (SlIn.congr (O3.out) (by first | rfl | (simp [Addr.add_lit]; done) | (simp [Addr.add_lit]; omega)) (by first | rfl | omega) (by first | rfl | omega)) OT.out (by unfold maxLen; omega) (by omega) (by omega) ?_; intro A4 c4 w4 hown hgrow; have R := splice_mem HK.out HO.out hbase hab (show st ≤ n by omega) (B2.out.trans (B3.out.mono B2.out.size)) (own_below O2.out B3.out) VD.out (own_len hown (show _ = (st + (n - (st + k))) by omega)) hgrow (VL.out); have r1 := R.1; have r2 := R.2.1; have RR := hide R.2.2; clear R hown hgrow))
      go_ret2
      exact ⟨_, rfl, RR.out.cast (by omega) (by omega) rfl (by simp)⟩

set_option maxRecDepth 100000 in
set_option maxHeartbeats 4000000 in
theorem splice3_none_cl (base B ab n c g ib jb st k : Nat) (Aa : Option Addr) (ca : Nat) (vs : List Value) (zs ys : List Int) (w : World) (hblk : Blk w ab #[.slice (some ⟨g, 0, none⟩) n c] 36) (hown : w.ownsRow base 41 1 (.slice (some ⟨g, 0, none⟩) n c) n vs) (hobj : Objs w B vs zs) (hys : ys = []) (hbase : base ≤ w.heap.size) (hab : base ≤ ab)
    (hargs : SlIn w w.heap.size Aa 3 ca (.iface 30 (.pointer (some ⟨ab, 0, none⟩)) :: .iface 37 (.pointer (some ⟨ib, 0, none⟩)) :: .iface 37 (.pointer (some ⟨jb, 0, none⟩)) :: [])) (hint : Blk w ib #[.int .i64 (st : Int)] 39) (hcnt : Blk w jb #[.int .i64 (k : Int)] 39) (hn : n ≤ 65536) (hst : st ≤ n) (hk : k ≤ 4611686018427387904) (hcl : n < st + k) :
    Calls Tryd.prog 12 #[.slice Aa 3 ca] w (SpliceOk base B ab (n - st) (st + (ys.length + (n - (n)))) ((zs.drop st).take (n - st)) (zs.take st ++ (ys ++ zs.drop (n))) w) := by
  subst hys
  obtain ⟨i, hi, hz0, hz1, hz2⟩ := info_parts info_obj
  have hcell := hblk.at (i := 0) (v := .slice (some ⟨g, 0, none⟩) n c) rfl
  have HL : Hid (vs.length = n) := by have := hown.1; show vs.length = n; simpa using this
  have HO := hide hown
  have HK := hide hblk
  have HV := hide hobj
  have HS := hide (SlIn.of_own hown)
  have hle := HS.out.le
  have htop := HS.out.top
  unfold maxLen at htop
  have hlt := hblk.lt
  obtain ⟨ba, oa, u, hAa, hba, hu, hcu⟩ := hargs.cell (k := 0) (by omega)
  subst hAa
  simp at hu
  subst hu
  rw [Nat.add_zero] at hcu
  obtain ⟨ba', oa', u', hAa', _, hu', hcu'⟩ := hargs.cell (k := 1) (by omega)
  simp only [Option.some.injEq, Addr.mk.injEq, and_true] at hAa'
  obtain ⟨rfl, rfl⟩ := hAa'
  simp at hu'
  subst hu'
  obtain ⟨ba', oa', u', hAa', _, hu', hcu2⟩ := hargs.cell (k := 2) (by omega)
  simp only [Option.some.injEq, Addr.mk.injEq, and_true] at hAa'
  obtain ⟨rfl, rfl⟩ := hAa'
  simp at hu'
  subst hu'
  have hi1 := hint.at (i := 0) (v := .int .i64 (st : Int)) rfl
  have hi2 := hcnt.at (i := 0) (v := .int .i64 (k : Int)) rfl
  clear hown hblk hobj hargs
  clear hint hcnt
  have OD := hide (HV.out.drop st).ones
  have OT := hide (HV.out.drop n).ones
  by_cases hc : c = st
  · have ST := hide (HS.out.cut_end (Nat.le_refl n) (by omega))
    have SD := hide (HS.out.cut_end (k := st) hst hc)
    obtain rfl : n = c := by omega
    obtain rfl : n = st := by omega
    go_enter Tryd.func12, Tryd.ntmps12
    go_wp2_with (first | (at_builtin; refine wpList_append_in _ rfl _ _ 31 31 rfl w.heap.size 41 41 i .nilIface 16 Tryd.underlying31 Tryd.underlying31 hi hz0 hz1 hz2 rfl _ 0 [] rfl (own_empty w) w.heap.size _ _ _ (vs.drop n) rfl (SlIn.congr (SD.out.alloc (Nat.le_refl _) _) (by first | rfl | (simp [Addr.add_lit]; done) | (simp [Addr.add_lit]; omega)) (by first | rfl | omega) (by first | rfl | omega)) OD.out (by unfold maxLen; omega) (by omega) (by simp) ?_; intro A1 c1 w2 hown hgrow; have O2 := hide (own_len hown (show _ = 0 by omega)); have B2 : Hid (Below w.heap.size w w2) := (((Below.refl w.heap.size w).alloc (Nat.le_refl _) _).grown hgrow (by simp) (fun k hk => (own_empty w |>.lt k hk).1)); have V2 := hide ((HV.out.alloc (.cells #[] 41)).grown (own_empty w) (by decide) hgrow); have hcell2 := (HK.out.below B2.out hlt).at (i := 0) (v := .slice (some ⟨g, 0, none⟩) n n) rfl; have ST2 := hide ((ST.out.below B2.out (Nat.le_refl _)).mono B2.out.size); have hs2 := B2.out.size; clear hown hgrow) | (at_builtin; refine wpList_append_in _ rfl _ _ 31 31 rfl w2.heap.size 41 41 i .nilIface 16 Tryd.underlying31 Tryd.underlying31 hi hz0 hz1 hz2 rfl _ 0 [] rfl (World.ownsRow_nil _ _ _ _) w2.heap.size _ _ _ (vs.drop n) rfl (SlIn.congr (ST2.out) (by first | rfl | (simp [Addr.add_lit]; done) | (simp [Addr.add_lit]; omega)) (by first | rfl | omega) (by first | rfl | omega)) OT.out (by unfold maxLen; omega) (by omega) (Nat.le_refl _) ?_; intro A3 c3 w3 hown hgrow; have O3 := hide (SlIn.of_own hown); have B3 := hide ((Below.refl w2.heap.size w2).grown hgrow (Nat.le_refl _) (fun k hk => by cases hk)); have V3 := hide (V2.out.below B3.out); have HO3 := hide (own_pre (own_below HO.out (B2.out.trans (B3.out.mono B2.out.size))) (k := n) (by omega)); have hs3 := B3.out.size; clear hown hgrow; have VD := hide (V3.out.drop n); have VL := hide ((V3.out.take n).append ((Objs.nil _ _).append (V3.out.drop n)))) | (at_builtin; refine wpList_append_in _ rfl _ _ 31 31 rfl base 41 41 i .nilIface 16 Tryd.underlying31 Tryd.underlying31 hi hz0 hz1 hz2 rfl _ n (vs.take n) rfl HO3.out w3.heap.size _ _ _ ([] ++ (vs.drop n)) rfl (SlIn.congr (O3.out) (by first | rfl | (simp [Addr.add_lit]; done) | (simp [Addr.add_lit]; omega)) (by first | rfl | omega) (by first | rfl | omega)) OT.out (by unfold maxLen; omega) (by omega) (by omega) ?_; intro A4 c4 w4 hown hgrow; have R := splice_mem HK.out HO.out hbase hab (show n ≤ n by omega) (B2.out.trans (B3.out.mono B2.out.size)) (own_below O2.out B3.out) VD.out (own_len hown (show _ = n by omega)) hgrow (VL.out); have r1 := R.1; have r2 := R.2.1; have RR := hide R.2.2; clear R hown hgrow))
    go_ret2
    exact ⟨_, rfl, RR.out.cast (by omega) (by omega) (by first | rw [List.take_of_length_le (by have h1 := HL.out; have h2 := HV.out.len; simp; omega)] | rw [List.drop_of_length_le (by have h1 := HL.out; have h2 := HV.out.len; omega)]) (by simp)⟩
  · by_cases hc2 : c = n
    · have ST := hide (HS.out.cut_end (Nat.le_refl n) hc2)
      have SD := hide (HS.out.cut_in (k := st) hst hc)
      obtain rfl : n = c := hc2.symm
      go_enter Tryd.func12, Tryd.ntmps12
      go_wp2_with (first | (at_builtin; refine wpList_append_in _ rfl _ _ 31 31 rfl w.heap.size 41 41 i .nilIface 16 Tryd.underlying31 Tryd.underlying31 hi hz0 hz1 hz2 rfl _ 0 [] rfl (own_empty w) w.heap.size _ _ _ (vs.drop st) rfl (SlIn.congr (SD.out.alloc (Nat.le_refl _) _) (by first | rfl | (simp [Addr.add_lit]; done) | (simp [Addr.add_lit]; omega)) (by first | rfl | omega) (by first | rfl | omega)) OD.out (by unfold maxLen; omega) (by omega) (by simp) ?_; intro A1 c1 w2 hown hgrow; have O2 := hide (own_len hown (show _ = (n - st) by omega)); have B2 : Hid (Below w.heap.size w w2) := (((Below.refl w.heap.size w).alloc (Nat.le_refl _) _).grown hgrow (by simp) (fun k hk => (own_empty w |>.lt k hk).1)); have V2 := hide ((HV.out.alloc (.cells #[] 41)).grown (own_empty w) (by decide) hgrow); have hcell2 := (HK.out.below B2.out hlt).at (i := 0) (v := .slice (some ⟨g, 0, none⟩) n n) rfl; have ST2 := hide ((ST.out.below B2.out (Nat.le_refl _)).mono B2.out.size); have hs2 := B2.out.size; clear hown hgrow) | (at_builtin; refine wpList_append_in _ rfl _ _ 31 31 rfl w2.heap.size 41 41 i .nilIface 16 Tryd.underlying31 Tryd.underlying31 hi hz0 hz1 hz2 rfl _ 0 [] rfl (World.ownsRow_nil _ _ _ _) w2.heap.size _ _ _ (vs.drop n) rfl (SlIn.congr (ST2.out) (by first | rfl | (simp [Addr.add_lit]; done) | (simp [Addr.add_lit]; omega)) (by first | rfl | omega) (by first | rfl | omega)) OT.out (by unfold maxLen; omega) (by omega) (Nat.le_refl _) ?_; intro A3 c3 w3 hown hgrow; have O3 := hide (SlIn.of_own hown); have B3 := hide ((Below.refl w2.heap.size w2).grown hgrow (Nat.le_refl _) (fun k hk => by cases hk)); have V3 := hide (V2.out.below B3.out); have HO3 := hide (own_pre (own_below HO.out (B2.out.trans (B3.out.mono B2.out.size))) (k := st) (by omega)); have hs3 := B3.out.size; clear hown hgrow; have VD := hide (V3.out.drop st); have VL := hide ((V3.out.take st).append ((Objs.nil _ _).append (V3.out.drop n)))) | (at_builtin; refine wpList_append_in _ rfl _ _ 31 31 rfl base 41 41 i .nilIface 16 Tryd.underlying31 Tryd.underlying31 hi hz0 hz1 hz2 rfl _ st (vs.take st) rfl HO3.out w3.heap.size _ _ _ ([] ++ (vs.drop n)) rfl (SlIn.congr (O3.out) (by first | rfl | (simp [Addr.add_lit]; done) | (simp [Addr.add_lit]; omega)) (by first | rfl | omega) (by first | rfl | omega)) OT.out (by unfold maxLen; omega) (by omega) (by omega) ?_; intro A4 c4 w4 hown hgrow; have R := splice_mem HK.out HO.out hbase hab (show st ≤ n by omega) (B2.out.trans (B3.out.mono B2.out.size)) (own_below O2.out B3.out) VD.out (own_len hown (show _ = st by omega)) hgrow (VL.out); have r1 := R.1; have r2 := R.2.1; have RR := hide R.2.2; clear R hown hgrow))
      go_ret2
      exact ⟨_, rfl, RR.out.cast (by omega) (by omega) (by first | rw [List.take_of_length_le (by have h1 := HL.out; have h2 := HV.out.len; simp; omega)] | rw [List.drop_of_length_le (by have h1 := HL.out; have h2 := HV.out.len; omega)]) (by simp)⟩
    · have ST := hide (HS.out.cut_in (Nat.le_refl n) hc2)
      have SD := hide (HS.out.cut_in (k := st) hst hc)
      go_enter Tryd.func12, Tryd.ntmps12
      go_wp2_with (first | (at_builtin; refine wpList_append_in _ rfl _ _ 31 31 rfl w.heap.size 41 41 i .nilIface 16 Tryd.underlying31 Tryd.underlying31 hi hz0 hz1 hz2 rfl _ 0 [] rfl (own_empty w) w.heap.size _ _ _ (vs.drop st) rfl (SlIn.congr (SD.out.alloc (Nat.le_refl _) _) (by first | rfl | (simp [Addr.add_lit]; done) | (simp [Addr.add_lit]; omega)) (by first | rfl | omega) (by first | rfl | omega)) OD.out (by unfold maxLen; omega) (by omega) (by simp) ?_; intro A1 c1 w2 hown hgrow; have O2 := hide (own_len hown (show _ = (n - st) by omega)); have B2 : Hid (Below w.heap.size w w2) := (((Below.refl w.heap.size w).alloc (Nat.le_refl _) _).grown hgrow (by simp) (fun k hk => (own_empty w |>.lt k hk).1)); have V2 := hide ((HV.out.alloc (.cells #[] 41)).grown (own_empty w) (by decide) hgrow); have hcell2 := (HK.out.below B2.out hlt).at (i := 0) (v := .slice (some ⟨g, 0, none⟩) n c) rfl; have ST2 := hide ((ST.out.below B2.out (Nat.le_refl _)).mono B2.out.size); have hs2 := B2.out.size; clear hown hgrow) | (at_builtin; refine wpList_append_in _ rfl _ _ 31 31 rfl w2.heap.size 41 41 i .nilIface 16 Tryd.underlying31 Tryd.underlying31 hi hz0 hz1 hz2 rfl _ 0 [] rfl (World.ownsRow_nil _ _ _ _) w2.heap.size _ _ _ (vs.drop n) rfl (SlIn.congr (ST2.out) (by first | rfl | (simp [Addr.add_lit]; done) | (simp [Addr.add_lit]; omega)) (by first | rfl | omega) (by first | rfl | omega)) OT.out (by unfold maxLen; omega) (by omega) (Nat.le_refl _) ?_; intro A3 c3 w3 hown hgrow; have O3 := hide (SlIn.of_own hown); have B3 := hide ((Below.refl w2.heap.size w2).grown hgrow (Nat.le_refl _) (fun k hk => by cases hk)); have V3 := hide (V2.out.below B3.out); have HO3 := hide (own_pre (own_below HO.out (B2.out.trans (B3.out.mono B2.out.size))) (k := st) (by omega)); have hs3 := B3.out.size; clear hown hgrow; have VD := hide (V3.out.drop st); have VL := hide ((V3.out.take st).append ((Objs.nil _ _).append (V3.out.drop n)))) | (at_builtin; refine wpList_append_in _ rfl _ _ 31 31 rfl base 41 41 i .nilIface 16 Tryd.underlying31 Tryd.underlying31 hi hz0 hz1 hz2 rfl _ st (vs.take st) rfl HO3.out w3.heap.size _ _ _ ([] ++ (vs.drop n)) rfl (SlIn.congr (O3.out) (by first | rfl | (simp [Addr.add_lit]; done) | (simp [Addr.add_lit]; omega)) (by first | rfl | omega) (by first | rfl | omega)) OT.out (by unfold maxLen; omega) (by omega) (by omega) ?_; intro A4 c4 w4 hown hgrow; have R := splice_mem HK.out HO.out hbase hab (show st ≤ n by omega) (B2.out.trans (B3.out.mono B2.out.size)) (own_below O2.out B3.out) VD.out (own_len hown (show _ = st by omega)) hgrow (VL.out); have r1 := R.1; have r2 := R.2.1; have RR := hide R.2.2; clear R hown hgrow))
      go_ret2
      exact ⟨_, rfl, RR.out.cast (by omega) (by omega) (by first | rw [List.take_of_length_le (by have h1 := HL.out; have h2 := HV.out.len; simp; omega)] | rw [List.drop_of_length_le (by have h1 := HL.out; have h2 := HV.out.len; omega)]) (by simp)⟩
end Go.Proofs.YtdfjbegifibldaaDoor
