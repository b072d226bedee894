/- builtinSplice with four arguments and more. Conditions: at most 2^16 elements; the array and its row are the caller's own; the start lies in the array. -/
import Derived.Test.YtdfjbegifibldaaDoorSplice4
namespace Go.Proofs.YtdfjbegifibldaaDoor
open Go.RowKit
attribute [local go_sem] ta_int_ok ta_arr_ok

set_option maxRecDepth 100000 in
set_option maxHeartbeats 4000000 in
theorem splice3_some_cl (base B ab n c g ib jb st k : Nat) (Aa : Option Addr) (ca m : Nat) (vs iv : List Value) (zs ys : List Int) (w : World) (hblk : Blk w ab #[.slice (some ⟨g, 0, none⟩) n c] 36) (hown : w.ownsRow base 41 1 (.slice (some ⟨g, 0, none⟩) n c) n vs) (hobj : Objs w B vs zs) (hitm : Objs w B iv ys) (hbase : base ≤ w.heap.size) (hab : base ≤ ab)
    (hargs : SlIn w w.heap.size Aa (3 + m) ca (.iface 30 (.pointer (some ⟨ab, 0, none⟩)) :: .iface 37 (.pointer (some ⟨ib, 0, none⟩)) :: .iface 37 (.pointer (some ⟨jb, 0, none⟩)) :: iv)) (hint : Blk w ib #[.int .i64 (st : Int)] 39) (hcnt : Blk w jb #[.int .i64 (k : Int)] 39) (hn : n ≤ 65536) (hm : m ≤ 65536) (hst : st ≤ n) (hk : k ≤ 4611686018427387904) (hm0 : 0 < m) (hcl : n < st + k) :
    Calls Tryd.prog 12 #[.slice Aa (3 + m) ca] w (SpliceOk base B ab (n - st) (st + (ys.length + (n - (n)))) ((zs.drop st).take (n - st)) (zs.take st ++ (ys ++ zs.drop (n))) w) := by
  obtain ⟨i, hi, hz0, hz1, hz2⟩ := info_parts info_obj
  have hcell := hblk.at (i := 0) (v := .slice (some ⟨g, 0, none⟩) n c) rfl
  have HL : Hid (vs.length = n) := by have := hown.1; show vs.length = n; simpa using this
  have HO := hide hown
  have HK := hide hblk
  have HV := hide hobj
  have HS := hide (SlIn.of_own hown)
  have hle := HS.out.le
  have htop := HS.out.top
  unfold maxLen at htop
  have hlt := hblk.lt
  have hlen := hargs.len
  simp at hlen
  obtain ⟨ba, oa, u, hAa, hba, hu, hcu⟩ := hargs.cell (k := 0) (by omega)
  subst hAa
  simp at hu
  subst hu
  rw [Nat.add_zero] at hcu
  obtain ⟨ba', oa', u', hAa', _, hu', hcu'⟩ := hargs.cell (k := 1) (by omega)
  simp only [Option.some.injEq, Addr.mk.injEq, and_true] at hAa'
  obtain ⟨rfl, rfl⟩ := hAa'
  simp at hu'
  subst hu'
  obtain ⟨ba', oa', u', hAa', _, hu', hcu2⟩ := hargs.cell (k := 2) (by omega)
  simp only [Option.some.injEq, Addr.mk.injEq, and_true] at hAa'
  obtain ⟨rfl, rfl⟩ := hAa'
  simp at hu'
  subst hu'
  have AR := hide hargs
  have HM := hide (show iv.length = m by omega)
  have IT := hide hitm
  have hi1 := hint.at (i := 0) (v := .int .i64 (st : Int)) rfl
  have hi2 := hcnt.at (i := 0) (v := .int .i64 (k : Int)) rfl
  clear hown hblk hobj hargs hitm hlen
  clear hint hcnt
  have OD := hide (HV.out.drop st).ones
  have OT := hide (HV.out.drop n).ones
  by_cases hc : c = st
  · have ST := hide (HS.out.cut_end (Nat.le_refl n) (by omega))
    have SD := hide (HS.out.cut_end (k := st) hst hc)
    obtain rfl : n = c := by omega
    obtain rfl : n = st := by omega
    go_enter Tryd.func12, Tryd.ntmps12
    go_wp2_with (first | (at_builtin; go_loud (at_builtin; refine wpList_append_in _ rfl _ _ 31 31 rfl w.heap.size 41 41 i .nilIface 16 Tryd.underlying31 Tryd.underlying31 hi hz0 hz1 hz2 rfl _ 0 [] rfl (own_empty w) w.heap.size _ _ _ (vs.drop n) rfl (SlIn.congr (SD.out.alloc (Nat.le_refl _) _) (by first | rfl | (simp [Addr.add_lit]; done) | (simp [Addr.add_lit]; omega)) (by first | rfl | omega) (by first | rfl | omega)) OD.out (by unfold maxLen; omega) (by omega) (by simp) ?_; intro A1 c1 w2 hown hgrow; have O2 := hide (own_len hown (show _ = 0 by omega)); have B2 : Hid (Below w.heap.size w w2) := (((Below.refl w.heap.size w).alloc (Nat.le_refl _) _).grown hgrow (by simp) (fun k hk => (own_empty w |>.lt k hk).1)); have V2 := hide ((HV.out.alloc (.cells #[] 41)).grown (own_empty w) (by decide) hgrow); have hcell2 := (HK.out.below B2.out hlt).at (i := 0) (v := .slice (some ⟨g, 0, none⟩) n n) rfl; have ST2 := hide ((ST.out.below B2.out (Nat.le_refl _)).mono B2.out.size); have hs2 := B2.out.size; have hgrow0 := hgrow; clear hown hgrow; have I2 := hide ((IT.out.alloc (.cells #[] 41)).grown (own_empty w) (by decide) hgrow0))) | (at_make; go_loud (at_make; refine wpList_make_own _ rfl _ _ 31 rfl w2.heap.size 41 i .nilIface 1 Tryd.underlying31 hi hz0 hz1 _ _ _ m rfl rfl (by first | rfl | omega | simp) (by rw [hz2]; omega) (by unfold maxLen; omega) (Nat.le_refl _) ?_; intro w5 hown5 hgrow5; have O5 := hide hown5; have B5 := hide ((Below.refl w2.heap.size w2).grown hgrow5 (Nat.le_refl _) (fun k hk => by cases hk)); clear hown5 hgrow5)))
    go_loopw [17, 18] (fun v ix wr => ∃ (j : Nat) (A' : Option Addr) (c' : Nat), j ≤ m ∧ ix = .int .i64 (3 + (j : Int)) ∧ v = .slice A' j c' ∧ Hid (wr.ownsRow w2.heap.size 41 1 (.slice A' j c') j (iv.take j)) ∧ Hid (Below w2.heap.size w2 wr)) (fun _ ix _ => m + 3 - (intOf ix).toNat)
    case atStart => exact ⟨0, _, _, Nat.zero_le _, rfl, rfl, O5, B5⟩
    case round =>
      obtain ⟨j, A', c', hj, rfl, rfl, HOj, HBj⟩ := hrel
      have BW : Hid (Below w.heap.size w wr) := B2.out.trans (HBj.out.mono B2.out.size)
      have hbz := HBj.out.size
      by_cases hlt3 : j < m
      · obtain ⟨bx, ox, u, hAx, _, hu, hcx⟩ := (AR.out.below BW.out (Nat.le_refl _)).cell (k := 3 + j) (by omega)
        simp only [Option.some.injEq, Addr.mk.injEq, and_true] at hAx
        obtain ⟨rfl, rfl⟩ := hAx
        have hu2 : iv[j]? = some u := by
          rw [Nat.add_comm] at hu
          simpa using hu
        have HU := hide hu2
        obtain ⟨x, hx⟩ : ∃ x, ys[j]? = some x := ⟨_, List.getElem?_eq_getElem (by have h1 := IT.out.len; have h2 := HM.out; omega)⟩
        obtain ⟨bi, rfl, _, _⟩ := IT.out.get j u x hu2 hx
        clear hx
        clear hu hu2
        have e3 : ((3 : Int) + (j : Int)).toNat = 3 + j := by omega
        have e4 : (3 : Int) + (j : Int) < 3 + (m : Int) := by omega
        have e5 : (0 : Int) ≤ (3 : Int) + (j : Int) := by omega
        go_wp2_with (at_builtin; go_loud (refine wpList_append_in _ rfl _ _ 31 31 rfl w2.heap.size 41 41 i .nilIface 16 Tryd.underlying31 Tryd.underlying31 hi hz0 hz1 hz2 rfl _ j (iv.take j) rfl (HOj.out.alloc _) (wr.heap.size + 1) (some ⟨wr.heap.size, 0, none⟩) 1 1 [.iface 37 (.pointer (some ⟨bi, 0, none⟩))] rfl (SlIn.one wr _ _) (by simp [Value.oneCell']) (by unfold maxLen; omega) (by omega) (by simp; omega) ?_; intro A6 c6 w6 hown6 hgrow6; have R6 := hide (items_snoc HOj.out HBj.out HU.out hown6 hgrow6); clear hown6 hgrow6))
        go_roundw
        case rel => exact ⟨j + 1, A6, c6, by omega, by go_num, rfl, R6.out.1, R6.out.2⟩
        case measure => simp [intOf]; omega
      · obtain rfl : m = j := by omega
        have OI : Hid (wr.ownsRow w2.heap.size 41 1 (.slice A' m c') m iv) := by
          have h := HOj.out
          rw [List.take_of_length_le (Nat.le_of_eq HM.out)] at h
          exact h
        have STr := hide ((ST.out.below BW.out (Nat.le_refl _)).mono BW.out.size)
        have hcellr := (HK.out.below BW.out hlt).at (i := 0) (v := .slice (some ⟨g, 0, none⟩) n n) rfl
        have hlt4 : ¬ (3 : Int) + (m : Int) < 3 + (m : Int) := by omega
        go_wp2_with (first | (at_builtin; refine wpList_append_in _ rfl _ _ 31 31 rfl w2.heap.size 41 41 i .nilIface 16 Tryd.underlying31 Tryd.underlying31 hi hz0 hz1 hz2 rfl _ m iv rfl OI.out wr.heap.size _ _ _ (vs.drop n) rfl (SlIn.congr (STr.out) (by first | rfl | (simp [Addr.add_lit]; done) | (simp [Addr.add_lit]; omega)) (by first | rfl | omega) (by first | rfl | omega)) OT.out (by unfold maxLen; omega) (by omega) (by omega) ?_; intro A3 c3 w3 hown hgrow; have O3 := hide (SlIn.of_own hown); have B3 := hide (HBj.out.grown hgrow HBj.out.size (fun k hk => (OI.out.lt k hk).1)); have V3 := hide (V2.out.below B3.out); have I3 := hide (I2.out.below B3.out); have HO3 := hide (own_pre (own_below HO.out (B2.out.trans (B3.out.mono B2.out.size))) (k := n) (by omega)); have hs3 := B3.out.size; have VD := hide (V3.out.drop n); have VL := hide ((V3.out.take n).append (I3.out.append (V3.out.drop n))); have OT3 := hide (show ∀ u ∈ iv ++ (vs.drop n), u.oneCell' = true from fun u hu => (List.mem_append.1 hu).elim (IT.out.ones u) (OT.out u)); clear hown hgrow) | (at_builtin; refine wpList_append_in _ rfl _ _ 31 31 rfl base 41 41 i .nilIface 16 Tryd.underlying31 Tryd.underlying31 hi hz0 hz1 hz2 rfl _ n (vs.take n) rfl HO3.out w3.heap.size _ _ _ (iv ++ (vs.drop n)) rfl (SlIn.congr (O3.out) (by first | rfl | (simp [Addr.add_lit]; done) | (simp [Addr.add_lit]; omega)) (by first | rfl | omega) (by first | rfl | omega)) OT3.out (by unfold maxLen; omega) (by omega) (by omega) ?_; intro A4 c4 w4 hown hgrow; have R := splice_mem HK.out HO.out hbase hab (show n ≤ n by omega) (B2.out.trans (B3.out.mono B2.out.size)) (own_below O2.out B3.out) VD.out (own_len hown (show _ = (n + m) by omega)) hgrow (VL.out); have r1 := R.1; have r2 := R.2.1; have RR := hide R.2.2; clear R hown hgrow))
        go_ret2
        exact ⟨_, rfl, RR.out.cast (by omega) (by have h1 := HM.out; have h2 := IT.out.len; omega) (by first | rw [List.take_of_length_le (by have h1 := HL.out; have h2 := HV.out.len; simp; omega)] | rw [List.drop_of_length_le (by have h1 := HL.out; have h2 := HV.out.len; omega)]) rfl⟩
  · by_cases hc2 : c = n
    · have ST := hide (HS.out.cut_end (Nat.le_refl n) hc2)
      have SD := hide (HS.out.cut_in (k := st) hst hc)
      obtain rfl : n = c := hc2.symm
      go_enter Tryd.func12, Tryd.ntmps12
      go_wp2_with (first | (at_builtin; go_loud (at_builtin; refine wpList_append_in _ rfl _ _ 31 31 rfl w.heap.size 41 41 i .nilIface 16 Tryd.underlying31 Tryd.underlying31 hi hz0 hz1 hz2 rfl _ 0 [] rfl (own_empty w) w.heap.size _ _ _ (vs.drop st) rfl (SlIn.congr (SD.out.alloc (Nat.le_refl _) _) (by first | rfl | (simp [Addr.add_lit]; done) | (simp [Addr.add_lit]; omega)) (by first | rfl | omega) (by first | rfl | omega)) OD.out (by unfold maxLen; omega) (by omega) (by simp) ?_; intro A1 c1 w2 hown hgrow; have O2 := hide (own_len hown (show _ = (n - st) by omega)); have B2 : Hid (Below w.heap.size w w2) := (((Below.refl w.heap.size w).alloc (Nat.le_refl _) _).grown hgrow (by simp) (fun k hk => (own_empty w |>.lt k hk).1)); have V2 := hide ((HV.out.alloc (.cells #[] 41)).grown (own_empty w) (by decide) hgrow); have hcell2 := (HK.out.below B2.out hlt).at (i := 0) (v := .slice (some ⟨g, 0, none⟩) n n) rfl; have ST2 := hide ((ST.out.below B2.out (Nat.le_refl _)).mono B2.out.size); have hs2 := B2.out.size; have hgrow0 := hgrow; clear hown hgrow; have I2 := hide ((IT.out.alloc (.cells #[] 41)).grown (own_empty w) (by decide) hgrow0))) | (at_make; go_loud (at_make; refine wpList_make_own _ rfl _ _ 31 rfl w2.heap.size 41 i .nilIface 1 Tryd.underlying31 hi hz0 hz1 _ _ _ m rfl rfl (by first | rfl | omega | simp) (by rw [hz2]; omega) (by unfold maxLen; omega) (Nat.le_refl _) ?_; intro w5 hown5 hgrow5; have O5 := hide hown5; have B5 := hide ((Below.refl w2.heap.size w2).grown hgrow5 (Nat.le_refl _) (fun k hk => by cases hk)); clear hown5 hgrow5)))
      go_loopw [17, 18] (fun v ix wr => ∃ (j : Nat) (A' : Option Addr) (c' : Nat), j ≤ m ∧ ix = .int .i64 (3 + (j : Int)) ∧ v = .slice A' j c' ∧ Hid (wr.ownsRow w2.heap.size 41 1 (.slice A' j c') j (iv.take j)) ∧ Hid (Below w2.heap.size w2 wr)) (fun _ ix _ => m + 3 - (intOf ix).toNat)
      case atStart => exact ⟨0, _, _, Nat.zero_le _, rfl, rfl, O5, B5⟩
      case round =>
        obtain ⟨j, A', c', hj, rfl, rfl, HOj, HBj⟩ := hrel
        have BW : Hid (Below w.heap.size w wr) := B2.out.trans (HBj.out.mono B2.out.size)
        have hbz := HBj.out.size
        by_cases hlt3 : j < m
        · obtain ⟨bx, ox, u, hAx, _, hu, hcx⟩ := (AR.out.below BW.out (Nat.le_refl _)).cell (k := 3 + j) (by omega)
          simp only [Option.some.injEq, Addr.mk.injEq, and_true] at hAx
          obtain ⟨rfl, rfl⟩ := hAx
          have hu2 : iv[j]? = some u := by
            rw [Nat.add_comm] at hu
            simpa using hu
          have HU := hide hu2
          obtain ⟨x, hx⟩ : ∃ x, ys[j]? = some x := ⟨_, List.getElem?_eq_getElem (by have h1 := IT.out.len; have h2 := HM.out; omega)⟩
          obtain ⟨bi, rfl, _, _⟩ := IT.out.get j u x hu2 hx
          clear hx
          clear hu hu2
          have e3 : ((3 : Int) + (j : Int)).toNat = 3 + j := by omega
          have e4 : (3 : Int) + (j : Int) < 3 + (m : Int) := by omega
          have e5 : (0 : Int) ≤ (3 : Int) + (j : Int) := by omega
          go_wp2_with (at_builtin; go_loud (refine wpList_append_in _ rfl _ _ 31 31 rfl w2.heap.size 41 41 i .nilIface 16 Tryd.underlying31 Tryd.underlying31 hi hz0 hz1 hz2 rfl _ j (iv.take j) rfl (HOj.out.alloc _) (wr.heap.size + 1) (some ⟨wr.heap.size, 0, none⟩) 1 1 [.iface 37 (.pointer (some ⟨bi, 0, none⟩))] rfl (SlIn.one wr _ _) (by simp [Value.oneCell']) (by unfold maxLen; omega) (by omega) (by simp; omega) ?_; intro A6 c6 w6 hown6 hgrow6; have R6 := hide (items_snoc HOj.out HBj.out HU.out hown6 hgrow6); clear hown6 hgrow6))
          go_roundw
          case rel => exact ⟨j + 1, A6, c6, by omega, by go_num, rfl, R6.out.1, R6.out.2⟩
          case measure => simp [intOf]; omega
        · obtain rfl : m = j := by omega
          have OI : Hid (wr.ownsRow w2.heap.size 41 1 (.slice A' m c') m iv) := by
            have h := HOj.out
            rw [List.take_of_length_le (Nat.le_of_eq HM.out)] at h
            exact h
          have STr := hide ((ST.out.below BW.out (Nat.le_refl _)).mono BW.out.size)
          have hcellr := (HK.out.below BW.out hlt).at (i := 0) (v := .slice (some ⟨g, 0, none⟩) n n) rfl
          have hlt4 : ¬ (3 : Int) + (m : Int) < 3 + (m : Int) := by omega
          go_wp2_with (first | (at_builtin; refine wpList_append_in _ rfl _ _ 31 31 rfl w2.heap.size 41 41 i .nilIface 16 Tryd.underlying31 Tryd.underlying31 hi hz0 hz1 hz2 rfl _ m iv rfl OI.out wr.heap.size _ _ _ (vs.drop n) rfl (SlIn.congr (STr.out) (by first | rfl | (simp [Addr.add_lit]; done) | (simp [Addr.add_lit]; omega)) (by first | rfl | omega) (by first | rfl | omega)) OT.out (by unfold maxLen; omega) (by omega) (by omega) ?_; intro A3 c3 w3 hown hgrow; have O3 := hide (SlIn.of_own hown); have B3 := hide (HBj.out.grown hgrow HBj.out.size (fun k hk => (OI.out.lt k hk).1)); have V3 := hide (V2.out.below B3.out); have I3 := hide (I2.out.below B3.out); have HO3 := hide (own_pre (own_below HO.out (B2.out.trans (B3.out.mono B2.out.size))) (k := st) (by omega)); have hs3 := B3.out.size; have VD := hide (V3.out.drop st); have VL := hide ((V3.out.take st).append (I3.out.append (V3.out.drop n))); have OT3 := hide (show ∀ u ∈ iv ++ (vs.drop n), u.oneCell' = true from fun u hu => (List.mem_append.1 hu).elim (IT.out.ones u) (OT.out u)); clear hown hgrow) | (at_builtin; refine wpList_append_in _ rfl _ _ 31 31 rfl base 41 41 i .nilIface 16 Tryd.underlying31 Tryd.underlying31 hi hz0 hz1 hz2 rfl _ st (vs.take st) rfl HO3.out w3.heap.size _ _ _ (iv ++ (vs.drop n)) rfl (SlIn.congr (O3.out) (by first | rfl | (simp [Addr.add_lit]; done) | (simp [Addr.add_lit]; omega)) (by first | rfl | omega) (by first | rfl | omega)) OT3.out (by unfold maxLen; omega) (by omega) (by omega) ?_; intro A4 c4 w4 hown hgrow; have R := splice_mem HK.out HO.out hbase hab (show st ≤ n by omega) (B2.out.trans (B3.out.mono B2.out.size)) (own_below O2.out B3.out) VD.out (own_len hown (show _ = (st + m) by omega)) hgrow (VL.out); have r1 := R.1; have r2 := R.2.1; have RR := hide R.2.2; clear R hown hgrow))
          go_ret2
          exact ⟨_, rfl, RR.out.cast (by omega) (by have h1 := HM.out; have h2 := IT.out.len; omega) (by first | rw [List.take_of_length_le (by have h1 := HL.out; have h2 := HV.out.len; simp; omega)] | rw [List.drop_of_length_le (by have h1 := HL.out; have h2 := HV.out.len; omega)]) rfl⟩
    · have ST := hide (HS.out.cut_in (Nat.le_refl n) hc2)
      have SD := hide (HS.out.cut_in (k := st) hst hc)
      go_enter Tryd.func12, Tryd.ntmps12
      go_wp2_with (first | (at_builtin; go_loud (at_builtin; refine wpList_append_in _ rfl _ _ 31 31 rfl w.heap.size 41 41 i .nilIface 16 Tryd.underlying31 Tryd.underlying31 hi hz0 hz1 hz2 rfl _ 0 [] rfl (own_empty w) w.heap.size _ _ _ (vs.drop st) rfl (SlIn.congr (SD.out.alloc (Nat.le_refl _) _) (by first | rfl | (simp [Addr.add_lit]; done) | (simp [Addr.add_lit]; omega)) (by first | rfl | omega) (by first | rfl | omega)) OD.out (by unfold maxLen; omega) (by omega) (by simp) ?_; intro A1 c1 w2 hown hgrow; have O2 := hide (own_len hown (show _ = (n - st) by omega)); have B2 : Hid (Below w.heap.size w w2) := (((Below.refl w.heap.size w).alloc (Nat.le_refl _) _).grown hgrow (by simp) (fun k hk => (own_empty w |>.lt k hk).1)); have V2 := hide ((HV.out.alloc (.cells #[] 41)).grown (own_empty w) (by decide) hgrow); have hcell2 := (HK.out.below B2.out hlt).at (i := 0) (v := .slice (some ⟨g, 0, none⟩) n c) rfl; have ST2 := hide ((ST.out.below B2.out (Nat.le_refl _)).mono B2.out.size); have hs2 := B2.out.size; have hgrow0 := hgrow; clear hown hgrow; have I2 := hide ((IT.out.alloc (.cells #[] 41)).grown (own_empty w) (by decide) hgrow0))) | (at_make; go_loud (at_make; refine wpList_make_own _ rfl _ _ 31 rfl w2.heap.size 41 i .nilIface 1 Tryd.underlying31 hi hz0 hz1 _ _ _ m rfl rfl (by first | rfl | omega | simp) (by rw [hz2]; omega) (by unfold maxLen; omega) (Nat.le_refl _) ?_; intro w5 hown5 hgrow5; have O5 := hide hown5; have B5 := hide ((Below.refl w2.heap.size w2).grown hgrow5 (Nat.le_refl _) (fun k hk => by cases hk)); clear hown5 hgrow5)))
      go_loopw [17, 18] (fun v ix wr => ∃ (j : Nat) (A' : Option Addr) (c' : Nat), j ≤ m ∧ ix = .int .i64 (3 + (j : Int)) ∧ v = .slice A' j c' ∧ Hid (wr.ownsRow w2.heap.size 41 1 (.slice A' j c') j (iv.take j)) ∧ Hid (Below w2.heap.size w2 wr)) (fun _ ix _ => m + 3 - (intOf ix).toNat)
      case atStart => exact ⟨0, _, _, Nat.zero_le _, rfl, rfl, O5, B5⟩
      case round =>
        obtain ⟨j, A', c', hj, rfl, rfl, HOj, HBj⟩ := hrel
        have BW : Hid (Below w.heap.size w wr) := B2.out.trans (HBj.out.mono B2.out.size)
        have hbz := HBj.out.size
        by_cases hlt3 : j < m
        · obtain ⟨bx, ox, u, hAx, _, hu, hcx⟩ := (AR.out.below BW.out (Nat.le_refl _)).cell (k := 3 + j) (by omega)
          simp only [Option.some.injEq, Addr.mk.injEq, and_true] at hAx
          obtain ⟨rfl, rfl⟩ := hAx
          have hu2 : iv[j]? = some u := by
            rw [Nat.add_comm] at hu
            simpa using hu
          have HU := hide hu2
          obtain ⟨x, hx⟩ : ∃ x, ys[j]? = some x := ⟨_, List.getElem?_eq_getElem (by have h1 := IT.out.len; have h2 := HM.out; omega)⟩
          obtain ⟨bi, rfl, _, _⟩ := IT.out.get j u x hu2 hx
          clear hx
          clear hu hu2
          have e3 : ((3 : Int) + (j : Int)).toNat = 3 + j := by omega
          have e4 : (3 : Int) + (j : Int) < 3 + (m : Int) := by omega
          have e5 : (0 : Int) ≤ (3 : Int) + (j : Int) := by omega
          go_wp2_with (at_builtin; go_loud (refine wpList_append_in _ rfl _ _ 31 31 rfl w2.heap.size 41 41 i .nilIface 16 Tryd.underlying31 Tryd.underlying31 hi hz0 hz1 hz2 rfl _ j (iv.take j) rfl (HOj.out.alloc _) (wr.heap.size + 1) (some ⟨wr.heap.size, 0, none⟩) 1 1 [.iface 37 (.pointer (some ⟨bi, 0, none⟩))] rfl (SlIn.one wr _ _) (by simp [Value.oneCell']) (by unfold maxLen; omega) (by omega) (by simp; omega) ?_; intro A6 c6 w6 hown6 hgrow6; have R6 := hide (items_snoc HOj.out HBj.out HU.out hown6 hgrow6); clear hown6 hgrow6))
          go_roundw
          case rel => exact ⟨j + 1, A6, c6, by omega, by go_num, rfl, R6.out.1, R6.out.2⟩
          case measure => simp [intOf]; omega
        · obtain rfl : m = j := by omega
          have OI : Hid (wr.ownsRow w2.heap.size 41 1 (.slice A' m c') m iv) := by
            have h := HOj.out
            rw [List.take_of_length_le (Nat.le_of_eq HM.out)] at h
            exact h
          have STr := hide ((ST.out.below BW.out (Nat.le_refl _)).mono BW.out.size)
          have hcellr := (HK.out.below BW.out hlt).at (i := 0) (v := .slice (some ⟨g, 0, none⟩) n c) rfl
          have hlt4 : ¬ (3 : Int) + (m : Int) < 3 + (m : Int) := by omega
          go_wp2_with (first | (at_builtin; refine wpList_append_in _ rfl _ _ 31 31 rfl w2.heap.size 41 41 i .nilIface 16 Tryd.underlying31 Tryd.underlying31 hi hz0 hz1 hz2 rfl _ m iv rfl OI.out wr.heap.size _ _ _ (vs.drop n) rfl (SlIn.congr (STr.out) (by first | rfl | (simp [Addr.add_lit]; done) | (simp [Addr.add_lit]; omega)) (by first | rfl | omega) (by first | rfl | omega)) OT.out (by unfold maxLen; omega) (by omega) (by omega) ?_; intro A3 c3 w3 hown hgrow; have O3 := hide (SlIn.of_own hown); have B3 := hide (HBj.out.grown hgrow HBj.out.size (fun k hk => (OI.out.lt k hk).1)); have V3 := hide (V2.out.below B3.out); have I3 := hide (I2.out.below B3.out); have HO3 := hide (own_pre (own_below HO.out (B2.out.trans (B3.out.mono B2.out.size))) (k := st) (by omega)); have hs3 := B3.out.size; have VD := hide (V3.out.drop st); have VL := hide ((V3.out.take st).append (I3.out.append (V3.out.drop n))); have OT3 := hide (show ∀ u ∈ iv ++ (vs.drop n), u.oneCell' = true from fun u hu => (List.mem_append.1 hu).elim (IT.out.ones u) (OT.out u)); clear hown hgrow) | (at_builtin; refine wpList_append_in _ rfl _ _ 31 31 rfl base 41 41 i .nilIface 16 Tryd.underlying31 Tryd.underlying31 hi hz0 hz1 hz2 rfl _ st (vs.take st) rfl HO3.out w3.heap.size _ _ _ (iv ++ (vs.drop n)) rfl (SlIn.congr (O3.out) (by first | rfl | (simp [Addr.add_lit]; done) | (simp [Addr.add_lit]; omega)) (by first | rfl | omega) (by first | rfl | omega)) OT3.out (by unfold maxLen; omega) (by omega) (by omega) ?_; intro A4 c4 w4 hown hgrow; have R := splice_mem HK.out HO.out hbase hab (show st ≤ n by omega) (B2.out.trans (B3.out.mono B2.out.size)) (own_below O2.out B3.out) VD.out (own_len hown (show _ = (st + m) by omega)) hgrow (VL.out); have r1 := R.1; have r2 := R.2.1; have RR := hide R.2.2; clear R hown hgrow))
          go_ret2
          exact ⟨_, rfl, RR.out.cast (by omega) (by have h1 := HM.out; have h2 := IT.out.len; omega) (by first | rw [List.take_of_length_le (by have h1 := HL.out; have h2 := HV.out.len; simp; omega)] | rw [List.drop_of_length_le (by have h1 := HL.out; have h2 := HV.out.len; omega)]) rfl⟩
end Go.Proofs.YtdfjbegifibldaaDoor
