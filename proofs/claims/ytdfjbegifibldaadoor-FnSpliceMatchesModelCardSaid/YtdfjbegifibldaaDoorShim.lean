/- The shims of splice with one and two arguments. Conditions: at most 2^16 elements. -/
import Derived.Test.YtdfjbegifibldaaDoorSplice2
import Derived.Deep.RegionHeld3
namespace Go.Proofs.YtdfjbegifibldaaDoor
open Go.RowKit
attribute [local go_sem] ta_arr

/-- Both lists come back, and true. -/
def Both (d n2 : Nat) (D L : List Int) (w : World) (e : Ending) (w' : World) : Prop :=
  ∃ A c A' c', e = .returned (.tuple #[.slice A n2 c, .slice A' d c', .bool true]) ∧ SlIn w' w'.heap.size A n2 c (L.map (Value.int .i64)) ∧ SlIn w' w'.heap.size A' d c' (D.map (Value.int .i64)) ∧ Below w.heap.size w w'

theorem keepS {w2 w' w'' : World} {a d : Nat} {va vd : Value} (ha : a < w2.heap.size) (hd : d < w2.heap.size) (h : w'.cell? ⟨a, 0, none⟩ = some va) (h' : w'.cell? ⟨d, 0, none⟩ = some vd) (hb : Below w2.heap.size w2 w') (hn : Below w'.heap.size w' w'') :
    w''.cell? ⟨a, 0, none⟩ = some va ∧ w''.cell? ⟨d, 0, none⟩ = some vd ∧ Below w2.heap.size w2 w'' :=
  ⟨(hn.cell (p := ⟨a, 0, none⟩) (Nat.lt_of_lt_of_le ha hb.size)).trans h, (hn.cell (p := ⟨d, 0, none⟩) (Nat.lt_of_lt_of_le hd hb.size)).trans h', hb.trans (hn.mono hb.size)⟩
theorem sl_of {w2 w' : World} {A : Option Addr} {n c : Nat} {xs : List Value} (hb : Below w2.heap.size w2 w') (h : SlIn w2 w2.heap.size A n c xs) : SlIn w' w'.heap.size A n c xs := (h.below hb (Nat.le_refl _)).mono hb.size
theorem ob_of {w2 w' : World} {B : Nat} {vs : List Value} {zs : List Int} (hb : Below w2.heap.size w2 w') (h : Objs w2 B vs zs) : Objs w' B vs zs := h.below hb
theorem bel_of {w2 w' w'' : World} (hb : Below w2.heap.size w2 w') (hn : Below w'.heap.size w' w'') : Below w2.heap.size w2 w'' := hb.trans (hn.mono hb.size)

theorem args1 (w : World) (u : Value) : SlIn (w.alloc (.cells #[u] 41)) (w.alloc (.cells #[u] 41)).heap.size (some ⟨w.heap.size, 0, none⟩) 1 1 [u] := by
  have h := SlIn.one w u 41
  rw [show (w.alloc (.cells #[u] 41)).heap.size = w.heap.size + 1 by simp]
  exact h

set_option maxRecDepth 100000 in
set_option maxHeartbeats 1000000 in
theorem shim1_any (A : Option Addr) (n c : Nat) (zs : List Int) (w : World) (h : SlIn w w.heap.size A n c (zs.map (Value.int .i64))) (hn : n ≤ 65536) :
    Calls Tryd.prog 9 #[.slice A n c] w (Both n 0 zs [] w) := by
  have HL := hide (show zs.length = n by simpa using h.len)
  have HS := hide h
  clear h
  go_enter Tryd.func9, Tryd.ntmps9
  go_wp2_with fail
  refine (toObjs_any A n c zs w HS.out (by omega)).mono ?_
  rw [show (MadeObjs zs w) = (fun e w' => MadeObjs zs w e w') from rfl]
  rintro e w1 ⟨g, c1, vs, rfl, ho1, hv1, hb1⟩
  rw [HL.out] at ho1 ⊢
  have O1 := hide ho1
  have V1 := hide hv1
  have B1 := hide hb1
  clear ho1 hv1 hb1
  go_wp2_with fail
  refine (splice1_any w.heap.size w.heap.size w1.heap.size n c1 g _ _ vs zs _ ((Blk.new w1 #[.slice (some ⟨g, 0, none⟩) n c1] 36).alloc _) ((O1.out.alloc _).alloc _) ((V1.out.alloc _).alloc _) (by have := B1.out.size; simp; omega) B1.out.size (SlIn.congr (args1 _ _) (by simp) rfl rfl) (by omega)).mono ?_
  rintro e w2 ⟨db, rfl, hsp⟩
  obtain ⟨⟨Ad, cd, dv, hbd, hsd, hod⟩, ⟨Aa, ca, av, hba, hsa, hoa⟩, hbel⟩ := hsp
  have B2 : Hid (Below w.heap.size w w2) := ((B1.out.alloc B1.out.size _).alloc (by have := B1.out.size; simp; omega) _).trans hbel
  have fa := hba.at (i := 0) (v := .slice Aa 0 ca) rfl
  have fd := hbd.at (i := 0) (v := .slice Ad n cd) rfl
  have KA := hide hba
  have KD := hide hbd
  have SA := hide hsa
  have SD := hide hsd
  have OA := hide hoa
  have OD := hide hod
  clear hba hbd hsa hsd hoa hod hbel
  go_wp2_with fail
  go_region_held3 (fun w' => w'.cell? ⟨w1.heap.size, 0, none⟩ = some (.slice Aa 0 ca) ∧ w'.cell? ⟨db, 0, none⟩ = some (.slice Ad n cd) ∧ Below w2.heap.size w2 w')
    (first | exact ⟨fa, fd, (Below.refl w2.heap.size w2).drew⟩ | (go_split_ands; exact keepS KA.out.lt KD.out.lt (by with_reducible assumption) (by with_reducible assumption) (by with_reducible assumption) hbp) | (go_split_ands; exact keepS KA.out.lt KD.out.lt (by with_reducible assumption) (by with_reducible assumption) (by with_reducible assumption) hbq) | (go_split_ands; exact ⟨(by with_reducible assumption), (by with_reducible assumption), (by with_reducible assumption)⟩))
    (first | (go_at_call 13; ((with_reducible refine (toInts_any Aa 0 ca w.heap.size av [] _ ?_ ?_ ?_).mono ?_)); (exact sl_of (by go_split_ands; with_reducible assumption) SA.out); (exact ob_of (by go_split_ands; with_reducible assumption) OA.out); omega; rintro e wa ⟨Ap, cp, rfl, hop, hbp⟩; have SP := hide (SlIn.of_own hop); have BP := hide (bel_of (show Below w2.heap.size w2 _ by go_split_ands; with_reducible assumption) hbp); clear hop) | (go_at_call 13; ((with_reducible refine (toInts_any Ad n cd w.heap.size dv zs _ ?_ ?_ ?_).mono ?_)); (exact sl_of (by go_split_ands; with_reducible assumption) SD.out); (exact ob_of (by go_split_ands; with_reducible assumption) OD.out); omega; rintro e wd ⟨Aq, cq, rfl, hoq, hbq⟩; have SQ := hide (SlIn.of_own hoq); have BQ := hide (bel_of (show Below w2.heap.size w2 _ by go_split_ands; with_reducible assumption) hbq); clear hoq))
  all_goals
    go_wp2
    go_returns
    first
    | exact ⟨_, _, _, _, rfl, sl_of hbq SP.out, SQ.out, B2.out.trans (BQ.out.mono B2.out.size)⟩
    | exact ⟨_, _, _, _, rfl, SP.out, sl_of hbp SQ.out, B2.out.trans (BP.out.mono B2.out.size)⟩
end Go.Proofs.YtdfjbegifibldaaDoor
