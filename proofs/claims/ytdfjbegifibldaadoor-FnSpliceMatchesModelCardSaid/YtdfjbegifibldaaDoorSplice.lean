/- builtinSplice: what it answers for an array of Ints, and what it leaves. Conditions: at most 2^20 elements; the array and its row are the caller's own. -/
import Derived.Test.YtdfjbegifibldaaDoorMem
import Derived.Deep.RegionWith
namespace Go.Proofs.YtdfjbegifibldaaDoor
open Go.RowKit
attribute [local go_sem] ta_int_ok ta_arr_ok

theorem own_empty (w : World) : (w.alloc (.cells #[] 41)).ownsRow w.heap.size 41 1 (.slice (some ⟨w.heap.size, 0, none⟩) 0 0) 0 [] :=
  ⟨rfl, .inr ⟨w.heap.size, 0, #[], rfl, Nat.le_refl _, heap_alloc_new w _, Nat.le_refl _, Nat.zero_le _, rfl, rfl⟩⟩

theorem SlIn.congr {w : World} {B n n' c c' : Nat} {A A' : Option Addr} {xs : List Value} (h : SlIn w B A n c xs) (hA : A = A') (hn : n = n') (hc : c = c') : SlIn w B A' n' c' xs := by
  subst hA hn hc
  exact h
theorem own_len {w : World} {b E n n' c : Nat} {A : Option Addr} {xs : List Value} (h : w.ownsRow b E 1 (.slice A n c) n xs) (e : n = n') : w.ownsRow b E 1 (.slice A n' c) n' xs := by
  subst e
  exact h
theorem Spliced.cast {w w' : World} {base B ab db d d' n2 n2' : Nat} {D D' L L' : List Int} (h : Spliced w w' base B ab db d n2 D L) (e1 : d = d') (e2 : n2 = n2') (e3 : D = D') (e4 : L = L') : Spliced w w' base B ab db d' n2' D' L' := by
  subst e1 e2 e3 e4
  exact h

/-- The call hands back the deleted elements as a new array, and no error. -/
def SpliceOk (base B ab d n2 : Nat) (D L : List Int) (w : World) (e : Ending) (w' : World) : Prop :=
  ∃ db, e = .returned (.tuple #[.iface 30 (.pointer (some ⟨db, 0, none⟩)), .nilIface]) ∧ Spliced w w' base B ab db d n2 D L

theorem splice_zero {w : World} {base ab g : Nat} (hbase : base ≤ w.heap.size) (hab : base ≤ ab) (hblk : Blk w ab #[.slice (some ⟨g, 0, none⟩) 0 0] 36) (B : Nat) :
    Spliced w (((w.setCell ⟨ab, 0, none⟩ (.slice (some ⟨g, 0, none⟩) 0 0)).alloc (.cells #[] 41)).alloc (.cells #[.slice (some ⟨w.heap.size, 0, none⟩) 0 0] 36)) base B ab (w.heap.size + 1) 0 0 [] [] := by
  have e5 : (w.setCell ⟨ab, 0, none⟩ (.slice (some ⟨g, 0, none⟩) 0 0)).heap.size = w.heap.size := by simp
  have sl : ∀ (w' : World) (b : Nat), SlIn w' w'.heap.size (some ⟨b, 0, none⟩) 0 0 [] := fun w' b => ⟨fun e => (by cases e), Nat.le_refl _, Nat.zero_le _, rfl, fun _ _ h => by simp at h⟩
  refine ⟨⟨some ⟨w.heap.size, 0, none⟩, 0, [], ?_, sl _ _, Objs.nil _ _⟩, ⟨some ⟨g, 0, none⟩, 0, [], ((hblk.set 0 _).alloc _).alloc _, sl _ _, Objs.nil _ _⟩, ?_⟩
  · have h := Blk.new ((w.setCell ⟨ab, 0, none⟩ (.slice (some ⟨g, 0, none⟩) 0 0)).alloc (.cells #[] 41)) #[.slice (some ⟨w.heap.size, 0, none⟩) 0 0] 36
    rw [show ((w.setCell ⟨ab, 0, none⟩ (.slice (some ⟨g, 0, none⟩) 0 0)).alloc (.cells #[] 41)).heap.size = w.heap.size + 1 by simp] at h
    exact h
  · exact ((((Below.refl base w).setCell hab _).alloc (by rw [e5]; exact hbase) _).alloc (by simp; omega) _)

set_option maxRecDepth 100000 in
set_option maxHeartbeats 4000000 in
theorem splice1_any (base B ab n c g : Nat) (Aa : Option Addr) (ca : Nat) (vs : List Value) (zs : List Int) (w : World) (hblk : Blk w ab #[.slice (some ⟨g, 0, none⟩) n c] 36) (hown : w.ownsRow base 41 1 (.slice (some ⟨g, 0, none⟩) n c) n vs) (hobj : Objs w B vs zs) (hbase : base ≤ w.heap.size) (hab : base ≤ ab)
    (hargs : SlIn w w.heap.size Aa 1 ca [.iface 30 (.pointer (some ⟨ab, 0, none⟩))]) (hn : n ≤ 1048576) :
    Calls Tryd.prog 12 #[.slice Aa 1 ca] w (SpliceOk base B ab n 0 zs [] w) := by
  obtain ⟨i, hi, hz0, hz1, hz2⟩ := info_parts info_obj
  have hcell := hblk.at (i := 0) (v := .slice (some ⟨g, 0, none⟩) n c) rfl
  have HL : Hid (vs.length = n) := by have := hown.1; show vs.length = n; simpa using this
  have HO := hide hown
  have HK := hide hblk
  have HV := hide hobj
  have HS := hide (SlIn.of_own hown)
  have hle := HS.out.le
  have htop := HS.out.top
  unfold maxLen at htop
  have hlt := hblk.lt
  obtain ⟨ba, oa, u, hAa, hba, hu, hcu⟩ := hargs.cell (k := 0) (by omega)
  subst hAa
  simp at hu
  subst hu
  rw [Nat.add_zero] at hcu
  clear hown hblk hobj hargs
  have SD := HS
  have OD := hide HV.out.ones
  have OT := hide (HV.out.drop n).ones
  by_cases hc : c = n
  · by_cases h0 : n = 0
    · subst h0
      obtain rfl : c = 0 := hc
      obtain rfl : vs = [] := List.eq_nil_of_length_eq_zero HL.out
      obtain rfl : zs = [] := List.eq_nil_of_length_eq_zero (by rw [← HV.out.len]; rfl)
      have hfr := HK.out.free 0
      have Z := hide (splice_zero hbase hab HK.out B)
      go_enter Tryd.func12, Tryd.ntmps12
      go_wp2
      go_ret2
      exact ⟨_, rfl, Z.out⟩
    · have ST := hide (HS.out.cut_end (Nat.le_refl n) hc)
      obtain rfl : n = c := hc.symm
      go_enter Tryd.func12, Tryd.ntmps12
      go_wp2_with (first | (at_builtin; refine wpList_append_in _ rfl _ _ 31 31 rfl w.heap.size 41 41 i .nilIface 16 Tryd.underlying31 Tryd.underlying31 hi hz0 hz1 hz2 rfl _ 0 [] rfl (own_empty w) w.heap.size _ _ _ vs rfl (SlIn.congr (SD.out.alloc (Nat.le_refl _) _) (by first | rfl | (simp [Addr.add_lit]; done) | (simp [Addr.add_lit]; omega)) (by first | rfl | omega) (by first | rfl | omega)) OD.out (by unfold maxLen; omega) (by omega) (by simp) ?_; intro A1 c1 w2 hown hgrow; have O2 := hide (own_len hown (show _ = n by omega)); have B2 : Hid (Below w.heap.size w w2) := (((Below.refl w.heap.size w).alloc (Nat.le_refl _) _).grown hgrow (by simp) (fun k hk => (own_empty w |>.lt k hk).1)); have V2 := hide ((HV.out.alloc (.cells #[] 41)).grown (own_empty w) (by decide) hgrow); have hcell2 := (HK.out.below B2.out hlt).at (i := 0) (v := .slice (some ⟨g, 0, none⟩) n n) rfl; have ST2 := hide ((ST.out.below B2.out (Nat.le_refl _)).mono B2.out.size); have hs2 := B2.out.size; clear hown hgrow) | (at_builtin; refine wpList_append_in _ rfl _ _ 31 31 rfl w2.heap.size 41 41 i .nilIface 16 Tryd.underlying31 Tryd.underlying31 hi hz0 hz1 hz2 rfl _ 0 [] rfl (World.ownsRow_nil _ _ _ _) w2.heap.size _ _ _ (vs.drop n) rfl (SlIn.congr (ST2.out) (by first | rfl | (simp [Addr.add_lit]; done) | (simp [Addr.add_lit]; omega)) (by first | rfl | omega) (by first | rfl | omega)) OT.out (by unfold maxLen; omega) (by omega) (Nat.le_refl _) ?_; intro A3 c3 w3 hown hgrow; have O3 := hide (SlIn.of_own hown); have B3 := hide ((Below.refl w2.heap.size w2).grown hgrow (Nat.le_refl _) (fun k hk => by cases hk)); have V3 := hide (V2.out.below B3.out); have HO3 := hide (own_pre (own_below HO.out (B2.out.trans (B3.out.mono B2.out.size))) (k := 0) (by omega)); have hs3 := B3.out.size; clear hown hgrow; have VD := hide (V3.out); have VL := hide ((V3.out.take 0).append ((Objs.nil _ _).append (V3.out.drop n)))) | (at_builtin; refine wpList_append_in _ rfl _ _ 31 31 rfl base 41 41 i .nilIface 16 Tryd.underlying31 Tryd.underlying31 hi hz0 hz1 hz2 rfl _ 0 (vs.take 0) rfl HO3.out w3.heap.size _ _ _ ([] ++ (vs.drop n)) rfl (SlIn.congr (O3.out) (by first | rfl | (simp [Addr.add_lit]; done) | (simp [Addr.add_lit]; omega)) (by first | rfl | omega) (by first | rfl | omega)) OT.out (by unfold maxLen; omega) (by omega) (by omega) ?_; intro A4 c4 w4 hown hgrow; have R := splice_mem HK.out HO.out hbase hab (show 0 ≤ n by omega) (B2.out.trans (B3.out.mono B2.out.size)) (own_below O2.out B3.out) VD.out (own_len hown (show _ = 0 by omega)) hgrow (VL.out); have r1 := R.1; have r2 := R.2.1; have RR := hide R.2.2; clear R hown hgrow))
      go_ret2
      exact ⟨_, rfl, RR.out.cast (by omega) (by omega) rfl (by have := HL.out; have h2 := HV.out.len; simp; omega)⟩
  · have ST := hide (HS.out.cut_in (Nat.le_refl n) hc)
    go_enter Tryd.func12, Tryd.ntmps12
    go_wp2_with (first | (at_builtin; refine wpList_append_in _ rfl _ _ 31 31 rfl w.heap.size 41 41 i .nilIface 16 Tryd.underlying31 Tryd.underlying31 hi hz0 hz1 hz2 rfl _ 0 [] rfl (own_empty w) w.heap.size _ _ _ vs rfl (SlIn.congr (SD.out.alloc (Nat.le_refl _) _) (by first | rfl | (simp [Addr.add_lit]; done) | (simp [Addr.add_lit]; omega)) (by first | rfl | omega) (by first | rfl | omega)) OD.out (by unfold maxLen; omega) (by omega) (by simp) ?_; intro A1 c1 w2 hown hgrow; have O2 := hide (own_len hown (show _ = n by omega)); have B2 : Hid (Below w.heap.size w w2) := (((Below.refl w.heap.size w).alloc (Nat.le_refl _) _).grown hgrow (by simp) (fun k hk => (own_empty w |>.lt k hk).1)); have V2 := hide ((HV.out.alloc (.cells #[] 41)).grown (own_empty w) (by decide) hgrow); have hcell2 := (HK.out.below B2.out hlt).at (i := 0) (v := .slice (some ⟨g, 0, none⟩) n c) rfl; have ST2 := hide ((ST.out.below B2.out (Nat.le_refl _)).mono B2.out.size); have hs2 := B2.out.size; clear hown hgrow) | (at_builtin; refine wpList_append_in _ rfl _ _ 31 31 rfl w2.heap.size 41 41 i .nilIface 16 Tryd.underlying31 Tryd.underlying31 hi hz0 hz1 hz2 rfl _ 0 [] rfl (World.ownsRow_nil _ _ _ _) w2.heap.size _ _ _ (vs.drop n) rfl (SlIn.congr (ST2.out) (by first | rfl | (simp [Addr.add_lit]; done) | (simp [Addr.add_lit]; omega)) (by first | rfl | omega) (by first | rfl | omega)) OT.out (by unfold maxLen; omega) (by omega) (Nat.le_refl _) ?_; intro A3 c3 w3 hown hgrow; have O3 := hide (SlIn.of_own hown); have B3 := hide ((Below.refl w2.heap.size w2).grown hgrow (Nat.le_refl _) (fun k hk => by cases hk)); have V3 := hide (V2.out.below B3.out); have HO3 := hide (own_pre (own_below HO.out (B2.out.trans (B3.out.mono B2.out.size))) (k := 0) (by omega)); have hs3 := B3.out.size; clear hown hgrow; have VD := hide (V3.out); have VL := hide ((V3.out.take 0).append ((Objs.nil _ _).append (V3.out.drop n)))) | (at_builtin; refine wpList_append_in _ rfl _ _ 31 31 rfl base 41 41 i .nilIface 16 Tryd.underlying31 Tryd.underlying31 hi hz0 hz1 hz2 rfl _ 0 (vs.take 0) rfl HO3.out w3.heap.size _ _ _ ([] ++ (vs.drop n)) rfl (SlIn.congr (O3.out) (by first | rfl | (simp [Addr.add_lit]; done) | (simp [Addr.add_lit]; omega)) (by first | rfl | omega) (by first | rfl | omega)) OT.out (by unfold maxLen; omega) (by omega) (by omega) ?_; intro A4 c4 w4 hown hgrow; have R := splice_mem HK.out HO.out hbase hab (show 0 ≤ n by omega) (B2.out.trans (B3.out.mono B2.out.size)) (own_below O2.out B3.out) VD.out (own_len hown (show _ = 0 by omega)) hgrow (VL.out); have r1 := R.1; have r2 := R.2.1; have RR := hide R.2.2; clear R hown hgrow))
    go_ret2
    exact ⟨_, rfl, RR.out.cast (by omega) (by omega) rfl (by have := HL.out; have h2 := HV.out.len; simp; omega)⟩
end Go.Proofs.YtdfjbegifibldaaDoor
