/- The shim of splice with two arguments: the good starts and the bad ones. Conditions: at most 2^16 elements; the sentinel's cell holds an interface value. -/
import Derived.Test.YtdfjbegifibldaaDoorShim
namespace Go.Proofs.YtdfjbegifibldaaDoor
open Go.RowKit
attribute [local go_sem] ta_int_ok ta_arr_ok ta_arr

theorem args2 (w : World) (u v : Value) : SlIn (w.alloc (.cells #[u, v] 41)) (w.alloc (.cells #[u, v] 41)).heap.size (some ⟨w.heap.size, 0, none⟩) 2 2 [u, v] := by
  refine ⟨fun e => (by cases e), Nat.le_refl _, by unfold maxLen; omega, rfl, fun j x hx => ⟨w.heap.size, 0, rfl, by simp, ?_⟩⟩
  have h := Blk.new w #[u, v] 41
  match j, hx with
  | 0, hx => simp at hx; subst hx; exact h.at rfl
  | 1, hx => simp at hx; subst hx; exact h.at rfl

/-- No array comes back, but the error in the cell. -/
def Refused (te : TypeId) (pe : Value) (w : World) (e : Ending) (w' : World) : Prop := e = .returned (.tuple #[.nilIface, .iface te pe]) ∧ Below w.heap.size w w'

set_option maxRecDepth 100000 in
set_option maxHeartbeats 2000000 in
theorem splice2_bad (ab n c g ib : Nat) (st : Int) (te : TypeId) (pe : Value) (Aa : Option Addr) (ca : Nat) (w : World) (hblk : Blk w ab #[.slice (some ⟨g, 0, none⟩) n c] 36)
    (hargs : SlIn w w.heap.size Aa 2 ca [.iface 30 (.pointer (some ⟨ab, 0, none⟩)), .iface 37 (.pointer (some ⟨ib, 0, none⟩))]) (hint : Blk w ib #[.int .i64 st] 39) (hst : st < 0 ∨ (n : Int) < st) (hE : w.cell? ⟨1, 0, none⟩ = some (.iface te pe)) :
    Calls Tryd.prog 12 #[.slice Aa 2 ca] w (Refused te pe w) := by
  have hcell := hblk.at (i := 0) (v := .slice (some ⟨g, 0, none⟩) n c) rfl
  obtain ⟨ba, oa, u, hAa, hba, hu, hcu⟩ := hargs.cell (k := 0) (by omega)
  subst hAa
  simp at hu
  subst hu
  rw [Nat.add_zero] at hcu
  obtain ⟨ba', oa', u', hAa', _, hu', hcu'⟩ := hargs.cell (k := 1) (by omega)
  simp only [Option.some.injEq, Addr.mk.injEq, and_true] at hAa'
  obtain ⟨rfl, rfl⟩ := hAa'
  simp at hu'
  subst hu'
  have hi1 := hint.at (i := 0) (v := .int .i64 st) rfl
  clear hint hargs hblk
  have hx : ¬ (0 ≤ st ∧ st ≤ (n : Int)) := by omega
  by_cases h0 : st < 0
  · go_enter Tryd.func12, Tryd.ntmps12
    go_wp2_with fail
    go_quiet (fail)
    go_wp2
    go_ret2
    exact ⟨rfl, below_drewN (Below.refl _ _) _⟩
  · have h1 : (n : Int) < st := by omega
    go_enter Tryd.func12, Tryd.ntmps12
    go_wp2_with fail
    go_quiet (fail)
    go_wp2
    go_ret2
    exact ⟨rfl, below_drewN (Below.refl _ _) _⟩

set_option maxRecDepth 100000 in
set_option maxHeartbeats 1000000 in
theorem shim2_any (A : Option Addr) (n c : Nat) (zs : List Int) (w : World) (h : SlIn w w.heap.size A n c (zs.map (Value.int .i64))) (hn : n ≤ 65536) (st : Nat) (hst : st ≤ n) :
    Calls Tryd.prog 10 #[.slice A n c, .int .i64 (st : Int)] w (Both (n - st) st (zs.drop st) (zs.take st) w) := by
  have HL := hide (show zs.length = n by simpa using h.len)
  have HS := hide h
  clear h
  go_enter Tryd.func10, Tryd.ntmps10
  go_wp2_with fail
  refine (toObjs_any A n c zs w HS.out (by omega)).mono ?_
  rw [show (MadeObjs zs w) = (fun e w' => MadeObjs zs w e w') from rfl]
  rintro e w1 ⟨g, c1, vs, rfl, ho1, hv1, hb1⟩
  rw [HL.out] at ho1 ⊢
  have O1 := hide ho1
  have V1 := hide hv1
  have B1 := hide hb1
  clear ho1 hv1 hb1
  go_wp2_with fail
  refine (splice2_any w.heap.size w.heap.size w1.heap.size n c1 g (w1.heap.size + 1) st _ _ vs zs _ (((Blk.new w1 #[.slice (some ⟨g, 0, none⟩) n c1] 36).alloc _).alloc _) (((O1.out.alloc _).alloc _).alloc _) (((V1.out.alloc _).alloc _).alloc _) (by have := B1.out.size; simp; omega) B1.out.size (SlIn.congr (args2 _ _ _) (by simp) rfl rfl) ((by have h := Blk.new (w1.alloc (.cells #[.slice (some ⟨g, 0, none⟩) n c1] 36)) #[.int .i64 (st : Int)] 39; rw [show (w1.alloc (.cells #[.slice (some ⟨g, 0, none⟩) n c1] 36)).heap.size = w1.heap.size + 1 by simp] at h; exact h.alloc _)) (by omega) hst).mono ?_
  rintro e w2 ⟨db, rfl, hsp⟩
  obtain ⟨⟨Ad, cd, dv, hbd, hsd, hod⟩, ⟨Aa, ca, av, hba, hsa, hoa⟩, hbel⟩ := hsp
  have B2 : Hid (Below w.heap.size w w2) := (((B1.out.alloc B1.out.size _).alloc (by have := B1.out.size; simp; omega) _).alloc (by have := B1.out.size; simp; omega) _).trans hbel
  have fa := hba.at (i := 0) (v := .slice Aa st ca) rfl
  have fd := hbd.at (i := 0) (v := .slice Ad (n - st) cd) rfl
  have KA := hide hba
  have KD := hide hbd
  have SA := hide hsa
  have SD := hide hsd
  have OA := hide hoa
  have OD := hide hod
  clear hba hbd hsa hsd hoa hod hbel
  go_wp2_with fail
  go_region_held3 (fun w' => w'.cell? ⟨w1.heap.size, 0, none⟩ = some (.slice Aa st ca) ∧ w'.cell? ⟨db, 0, none⟩ = some (.slice Ad (n - st) cd) ∧ Below w2.heap.size w2 w')
    (first | exact ⟨fa, fd, (Below.refl w2.heap.size w2).drew⟩ | (go_split_ands; exact keepS KA.out.lt KD.out.lt (by with_reducible assumption) (by with_reducible assumption) (by with_reducible assumption) hbp) | (go_split_ands; exact keepS KA.out.lt KD.out.lt (by with_reducible assumption) (by with_reducible assumption) (by with_reducible assumption) hbq) | (go_split_ands; exact ⟨(by with_reducible assumption), (by with_reducible assumption), (by with_reducible assumption)⟩))
    (first | (go_at_call 13; ((with_reducible refine (toInts_any Aa st ca w.heap.size av (zs.take st) _ ?_ ?_ ?_).mono ?_)); (exact sl_of (by go_split_ands; with_reducible assumption) SA.out); (exact ob_of (by go_split_ands; with_reducible assumption) OA.out); omega; rintro e wa ⟨Ap, cp, rfl, hop, hbp⟩; have SP := hide (SlIn.of_own hop); have BP := hide (bel_of (show Below w2.heap.size w2 _ by go_split_ands; with_reducible assumption) hbp); clear hop) | (go_at_call 13; ((with_reducible refine (toInts_any Ad (n - st) cd w.heap.size dv (zs.drop st) _ ?_ ?_ ?_).mono ?_)); (exact sl_of (by go_split_ands; with_reducible assumption) SD.out); (exact ob_of (by go_split_ands; with_reducible assumption) OD.out); omega; rintro e wd ⟨Aq, cq, rfl, hoq, hbq⟩; have SQ := hide (SlIn.of_own hoq); have BQ := hide (bel_of (show Below w2.heap.size w2 _ by go_split_ands; with_reducible assumption) hbq); clear hoq))
  all_goals
    go_wp2
    go_returns
    first
    | exact ⟨_, _, _, _, rfl, sl_of hbq SP.out, SQ.out, B2.out.trans (BQ.out.mono B2.out.size)⟩
    | exact ⟨_, _, _, _, rfl, SP.out, sl_of hbp SQ.out, B2.out.trans (BP.out.mono B2.out.size)⟩
set_option maxRecDepth 100000 in
set_option maxHeartbeats 1000000 in
theorem shim2_bad (A : Option Addr) (n c : Nat) (zs : List Int) (w : World) (h : SlIn w w.heap.size A n c (zs.map (Value.int .i64))) (hn : n ≤ 65536) (st : Int) (te : TypeId) (pe : Value) (hst : st < 0 ∨ (n : Int) < st) (hE : w.cell? ⟨1, 0, none⟩ = some (.iface te pe)) (hE0 : 1 < w.heap.size) :
    Calls Tryd.prog 10 #[.slice A n c, .int .i64 st] w fun e w' => e = .returned (.tuple #[.slice none 0 0, .slice none 0 0, .bool false]) ∧ Below w.heap.size w w' := by
  have HL := hide (show zs.length = n by simpa using h.len)
  have HS := hide h
  clear h
  go_enter Tryd.func10, Tryd.ntmps10
  go_wp2_with fail
  refine (toObjs_any A n c zs w HS.out (by omega)).mono ?_
  rw [show (MadeObjs zs w) = (fun e w' => MadeObjs zs w e w') from rfl]
  rintro e w1 ⟨g, c1, vs, rfl, ho1, hv1, hb1⟩
  rw [HL.out] at ho1 ⊢
  have O1 := hide ho1
  have V1 := hide hv1
  have B1 := hide hb1
  clear ho1 hv1 hb1
  go_wp2_with fail
  have E1 : Hid (∀ o1 o2 o3, (((w1.alloc o1).alloc o2).alloc o3).cell? ⟨1, 0, none⟩ = some (.iface te pe)) := fun o1 o2 o3 => by
    have h := (((B1.out.alloc B1.out.size o1).alloc (by have := B1.out.size; simp; omega) o2).alloc (by have := B1.out.size; simp; omega) o3).cell (p := ⟨1, 0, none⟩) hE0
    exact h.trans hE
  refine (splice2_bad w1.heap.size n c1 g (w1.heap.size + 1) st te pe _ _ _ (((Blk.new w1 #[.slice (some ⟨g, 0, none⟩) n c1] 36).alloc _).alloc _) (SlIn.congr (args2 _ _ _) (by simp) rfl rfl) ((by have h := Blk.new (w1.alloc (.cells #[.slice (some ⟨g, 0, none⟩) n c1] 36)) #[.int .i64 st] 39; rw [show (w1.alloc (.cells #[.slice (some ⟨g, 0, none⟩) n c1] 36)).heap.size = w1.heap.size + 1 by simp] at h; exact h.alloc _)) hst (E1.out _ _ _)).mono ?_
  rintro e w2 ⟨rfl, hbel⟩
  have B2 : Hid (Below w.heap.size w w2) := (((B1.out.alloc B1.out.size _).alloc (by have := B1.out.size; simp; omega) _).alloc (by have := B1.out.size; simp; omega) _).trans (hbel.mono (by have := B1.out.size; simp; omega))
  clear hbel
  go_wp2
  go_returns
  exact ⟨rfl, B2.out⟩
end Go.Proofs.YtdfjbegifibldaaDoor
