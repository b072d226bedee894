/- The shim of splice with three arguments and more: the good starts and counts, and the bad ones. Conditions: at most 2^16 elements and items; the sentinel's cell holds an interface value. -/
import Derived.Test.YtdfjbegifibldaaDoorShim3
namespace Go.Proofs.YtdfjbegifibldaaDoor
open Go.RowKit
attribute [local go_sem] ta_arr

theorem own_lit3 (w : World) (u v t : Value) : (w.alloc (.cells #[u, v, t] 41)).ownsRow w.heap.size 41 1 (.slice (some ⟨w.heap.size, 0, none⟩) 3 3) 3 [u, v, t] :=
  ⟨rfl, .inr ⟨w.heap.size, 3, #[u, v, t], rfl, Nat.le_refl _, heap_alloc_new w _, Nat.le_refl _, by unfold maxLen; omega, rfl, rfl⟩⟩

/-- The memory with the array, the two numbers and the list of arguments. -/
def W2 (w1 : World) (g n c1 : Nat) (st k : Int) : World :=
  (((w1.alloc (.cells #[.slice (some ⟨g, 0, none⟩) n c1] 36)).alloc (.cells #[.int .i64 st] 39)).alloc (.cells #[.int .i64 k] 39)).alloc (.cells #[.iface 30 (.pointer (some ⟨w1.heap.size, 0, none⟩)), .iface 37 (.pointer (some ⟨w1.heap.size + 1, 0, none⟩)), .iface 37 (.pointer (some ⟨w1.heap.size + 1 + 1, 0, none⟩))] 41)

theorem W2_size (w1 : World) (g n c1 : Nat) (st k : Int) : (W2 w1 g n c1 st k).heap.size = w1.heap.size + 1 + 1 + 1 + 1 := by simp [W2]

theorem W2_own (w1 : World) (g n c1 : Nat) (st k : Int) : (W2 w1 g n c1 st k).ownsRow (w1.heap.size + 1 + 1 + 1) 41 1 (.slice (some ⟨w1.heap.size + 1 + 1 + 1, 0, none⟩) 3 3) 3 [.iface 30 (.pointer (some ⟨w1.heap.size, 0, none⟩)), .iface 37 (.pointer (some ⟨w1.heap.size + 1, 0, none⟩)), .iface 37 (.pointer (some ⟨w1.heap.size + 1 + 1, 0, none⟩))] := by
  have h := own_lit3 (((w1.alloc (.cells #[.slice (some ⟨g, 0, none⟩) n c1] 36)).alloc (.cells #[.int .i64 st] 39)).alloc (.cells #[.int .i64 k] 39)) (.iface 30 (.pointer (some ⟨w1.heap.size, 0, none⟩))) (.iface 37 (.pointer (some ⟨w1.heap.size + 1, 0, none⟩))) (.iface 37 (.pointer (some ⟨w1.heap.size + 1 + 1, 0, none⟩)))
  rw [show (((w1.alloc (.cells #[.slice (some ⟨g, 0, none⟩) n c1] 36)).alloc (.cells #[.int .i64 st] 39)).alloc (.cells #[.int .i64 k] 39)).heap.size = w1.heap.size + 1 + 1 + 1 by simp] at h
  exact h

theorem W2_below {w w1 : World} (g n c1 : Nat) (st k : Int) (B1 : Below w.heap.size w w1) : Below w.heap.size w (W2 w1 g n c1 st k) := by
  have h := B1.size
  exact (((B1.alloc h _).alloc (by simp; omega) _).alloc (by simp; omega) _).alloc (by simp; omega) _

/-- What lies in memory where splice is called. -/
structure Ready (w w3 : World) (b g n c1 m c3 : Nat) (A3 : Option Addr) (st k : Int) (vs iv : List Value) (zs ys : List Int) : Prop where
  arr : Blk w3 b #[.slice (some ⟨g, 0, none⟩) n c1] 36
  own : w3.ownsRow w.heap.size 41 1 (.slice (some ⟨g, 0, none⟩) n c1) n vs
  obj : Objs w3 w.heap.size vs zs
  itm : Objs w3 w.heap.size iv ys
  one : Blk w3 (b + 1) #[.int .i64 st] 39
  two : Blk w3 (b + 1 + 1) #[.int .i64 k] 39
  args : SlIn w3 w3.heap.size A3 (3 + m) c3 (.iface 30 (.pointer (some ⟨b, 0, none⟩)) :: .iface 37 (.pointer (some ⟨b + 1, 0, none⟩)) :: .iface 37 (.pointer (some ⟨b + 1 + 1, 0, none⟩)) :: iv)
  bel : Below w.heap.size w w3

theorem ready {w w1 w2 w3 : World} {g n c1 m c3 : Nat} {A3 : Option Addr} {st k : Int} {vs iv : List Value} {zs ys : List Int}
    (O1 : w1.ownsRow w.heap.size 41 1 (.slice (some ⟨g, 0, none⟩) n c1) n vs) (V1 : Objs w1 w.heap.size vs zs) (B1 : Below w.heap.size w w1)
    (hb2 : Below (W2 w1 g n c1 st k).heap.size (W2 w1 g n c1 st k) w2) (hv2 : Objs w2 (W2 w1 g n c1 st k).heap.size iv ys)
    (h3 : w3.ownsRow (w1.heap.size + 1 + 1 + 1) 41 1 (.slice A3 (3 + m) c3) (3 + m) ([.iface 30 (.pointer (some ⟨w1.heap.size, 0, none⟩)), .iface 37 (.pointer (some ⟨w1.heap.size + 1, 0, none⟩)), .iface 37 (.pointer (some ⟨w1.heap.size + 1 + 1, 0, none⟩))] ++ iv))
    (hg3 : w2.grownBy w3 (Value.ownBlock (.slice (some ⟨w1.heap.size + 1 + 1 + 1, 0, none⟩) 3 3))) : Ready w w3 w1.heap.size g n c1 m c3 A3 st k vs iv zs ys := by
  have hs := W2_size w1 g n c1 st k
  have hrow := own_below (W2_own w1 g n c1 st k) hb2
  have hsz := hb2.size
  have keepB : ∀ {b cs T}, ¬ 41 = T → Blk (W2 w1 g n c1 st k) b cs T → Blk w3 b cs T := fun {b cs T} hT h => by
    have h2 := h.below hb2 h.lt
    exact h2.of_eq (hg3.block b h2.lt (own_not hT h2 hrow))
  have b1 : Blk (w1.alloc (.cells #[.slice (some ⟨g, 0, none⟩) n c1] 36)) w1.heap.size #[.slice (some ⟨g, 0, none⟩) n c1] 36 := Blk.new w1 _ _
  have b2 : Blk ((w1.alloc (.cells #[.slice (some ⟨g, 0, none⟩) n c1] 36)).alloc (.cells #[.int .i64 st] 39)) (w1.heap.size + 1) #[.int .i64 st] 39 := by
    have h := Blk.new (w1.alloc (.cells #[.slice (some ⟨g, 0, none⟩) n c1] 36)) #[.int .i64 st] 39
    simpa using h
  have b3 : Blk (((w1.alloc (.cells #[.slice (some ⟨g, 0, none⟩) n c1] 36)).alloc (.cells #[.int .i64 st] 39)).alloc (.cells #[.int .i64 k] 39)) (w1.heap.size + 1 + 1) #[.int .i64 k] 39 := by
    have h := Blk.new ((w1.alloc (.cells #[.slice (some ⟨g, 0, none⟩) n c1] 36)).alloc (.cells #[.int .i64 st] 39)) #[.int .i64 k] 39
    simpa using h
  have hO : (W2 w1 g n c1 st k).ownsRow w.heap.size 41 1 (.slice (some ⟨g, 0, none⟩) n c1) n vs := (((O1.alloc _).alloc _).alloc _).alloc _
  have hO2 := own_below hO hb2
  have hV : Objs (W2 w1 g n c1 st k) w.heap.size vs zs := (((V1.alloc _).alloc _).alloc _).alloc _
  have hglt := (O1.lt g rfl).2
  have B2 := (W2_below g n c1 st k B1).trans (hb2.mono (Nat.le_trans B1.size (by omega)))
  refine ⟨keepB (by decide) (((b1.alloc _).alloc _).alloc _), hO2.kept hg3 (.inr ?_), (hV.below hb2).grown hrow (by decide) hg3, (hv2.mono (by have := B1.size; omega)).grown hrow (by decide) hg3, keepB (by decide) ((b2.alloc _).alloc _), keepB (by decide) (b3.alloc _), SlIn.of_own h3, ?_⟩
  · intro e
    simp only [Value.ownBlock, Option.some.injEq] at e
    omega
  · exact B2.grown hg3 (Nat.le_trans B1.size (by omega)) (fun q hq => by have := (hrow.lt q hq).1; have := B1.size; omega)

set_option maxRecDepth 100000 in
set_option maxHeartbeats 2000000 in
theorem shim3_any (A : Option Addr) (n c : Nat) (zs : List Int) (A' : Option Addr) (m c' : Nat) (ys : List Int) (w : World) (h : SlIn w w.heap.size A n c (zs.map (Value.int .i64))) (h' : SlIn w w.heap.size A' m c' (ys.map (Value.int .i64))) (hn : n ≤ 65536) (hm : m ≤ 65536) (st k : Nat) (hst : st ≤ n) (hk : k ≤ 4611686018427387904) :
    Calls Tryd.prog 7 #[.slice A n c, .int .i64 (st : Int), .int .i64 (k : Int), .slice A' m c'] w (Both (dels n st k) (st + (m + (n - (st + dels n st k)))) ((zs.drop st).take (dels n st k)) (zs.take st ++ (ys ++ zs.drop (st + dels n st k))) w) := by
  obtain ⟨i, hi, hz0, hz1, hz2⟩ := info_parts info_obj
  have HL := hide (show zs.length = n by simpa using h.len)
  have HM := hide (show ys.length = m by simpa using h'.len)
  have HS := hide h
  have HT := hide h'
  have HD := hide (dels_le n st k hst)
  clear h h'
  go_enter Tryd.func7, Tryd.ntmps7
  go_wp2_with fail
  refine (toObjs_any A n c zs w HS.out (by omega)).mono ?_
  rw [show (MadeObjs zs w) = (fun e w' => MadeObjs zs w e w') from rfl]
  rintro e w1 ⟨g, c1, vs, rfl, ho1, hv1, hb1⟩
  rw [HL.out] at ho1 ⊢
  have O1 := hide ho1
  have V1 := hide hv1
  have B1 := hide hb1
  clear ho1 hv1 hb1
  go_wp2_with fail
  have BW := hide (W2_below g n c1 (st : Int) (k : Int) B1.out)
  have T2 : Hid (SlIn (W2 w1 g n c1 (st : Int) (k : Int)) (W2 w1 g n c1 (st : Int) (k : Int)).heap.size A' m c' (ys.map (Value.int .i64))) := (HT.out.below BW.out (Nat.le_refl _)).mono BW.out.size
  refine (toObjs_any A' m c' ys (W2 w1 g n c1 (st : Int) (k : Int)) T2.out (by omega)).mono ?_
  rw [show (MadeObjs ys (W2 w1 g n c1 (st : Int) (k : Int))) = (fun e w' => MadeObjs ys (W2 w1 g n c1 (st : Int) (k : Int)) e w') from rfl]
  rintro e w2 ⟨g2, c2, iv, rfl, ho2, hv2, hb2⟩
  rw [HM.out] at ho2 ⊢
  have O2 := hide ho2
  have V2 := hide hv2
  have B2 := hide hb2
  have R2 := hide (own_below (W2_own w1 g n c1 (st : Int) (k : Int)) hb2)
  have S2 := hide (SlIn.of_own ho2)
  have OI := hide hv2.ones
  have hsz : w1.heap.size + 1 + 1 + 1 ≤ w2.heap.size := by have := hb2.size; rw [W2_size] at this; omega
  clear ho2 hv2 hb2
  go_wp2_with (at_builtin; refine wpList_append_in _ rfl _ _ 31 31 rfl (w1.heap.size + 1 + 1 + 1) 41 41 i .nilIface 16 Tryd.underlying31 Tryd.underlying31 hi hz0 hz1 hz2 rfl _ 3 _ rfl R2.out w2.heap.size _ _ _ iv rfl S2.out OI.out (by unfold maxLen; omega) (by omega) hsz ?_; intro A3 c3 w3 hown hgrow; have RD := hide (ready O1.out V1.out B1.out B2.out V2.out hown hgrow); clear hown hgrow)
  refine (splice3_any w.heap.size w.heap.size w1.heap.size n c1 g (w1.heap.size + 1) (w1.heap.size + 1 + 1) st k A3 c3 m vs iv zs ys w3 RD.out.arr RD.out.own RD.out.obj RD.out.itm RD.out.bel.size B1.out.size RD.out.args RD.out.one RD.out.two (by omega) (by omega) hst hk).mono ?_
  rintro e w4 ⟨db, rfl, hsp⟩
  obtain ⟨⟨Ad, cd, dv, hbd, hsd, hod⟩, ⟨Aa, ca, av, hba, hsa, hoa⟩, hbel⟩ := hsp
  have B4 : Hid (Below w.heap.size w w4) := RD.out.bel.trans hbel
  rw [HM.out] at hba hsa
  have hd := HD.out
  generalize dels n st k = d at *
  have fa := hba.at (i := 0) (v := .slice Aa (st + (m + (n - (st + d)))) ca) rfl
  have fd := hbd.at (i := 0) (v := .slice Ad d cd) rfl
  have KA := hide hba
  have KD := hide hbd
  have SA := hide hsa
  have SD := hide hsd
  have OA := hide hoa
  have OD := hide hod
  clear hba hbd hsa hsd hoa hod hbel
  go_wp2_with fail
  go_region_held3 (fun w' => w'.cell? ⟨w1.heap.size, 0, none⟩ = some (.slice Aa (st + (m + (n - (st + d)))) ca) ∧ w'.cell? ⟨db, 0, none⟩ = some (.slice Ad d cd) ∧ Below w4.heap.size w4 w')
    (first | exact ⟨fa, fd, (Below.refl w4.heap.size w4).drew⟩ | (go_split_ands; exact keepS KA.out.lt KD.out.lt (by with_reducible assumption) (by with_reducible assumption) (by with_reducible assumption) hbp) | (go_split_ands; exact keepS KA.out.lt KD.out.lt (by with_reducible assumption) (by with_reducible assumption) (by with_reducible assumption) hbq) | (go_split_ands; exact ⟨(by with_reducible assumption), (by with_reducible assumption), (by with_reducible assumption)⟩))
    (first | (go_at_call 13; ((with_reducible refine (toInts_any Aa (st + (m + (n - (st + d)))) ca w.heap.size av (zs.take st ++ (ys ++ zs.drop (st + d))) _ ?_ ?_ ?_).mono ?_)); (exact sl_of (by go_split_ands; with_reducible assumption) SA.out); (exact ob_of (by go_split_ands; with_reducible assumption) OA.out); omega; rintro e wa ⟨Ap, cp, rfl, hop, hbp⟩; have SP := hide (SlIn.of_own hop); have BP := hide (bel_of (show Below w4.heap.size w4 _ by go_split_ands; with_reducible assumption) hbp); clear hop) | (go_at_call 13; ((with_reducible refine (toInts_any Ad d cd w.heap.size dv ((zs.drop st).take d) _ ?_ ?_ ?_).mono ?_)); (exact sl_of (by go_split_ands; with_reducible assumption) SD.out); (exact ob_of (by go_split_ands; with_reducible assumption) OD.out); omega; rintro e wd ⟨Aq, cq, rfl, hoq, hbq⟩; have SQ := hide (SlIn.of_own hoq); have BQ := hide (bel_of (show Below w4.heap.size w4 _ by go_split_ands; with_reducible assumption) hbq); clear hoq))
  all_goals
    go_wp2
    go_returns
    first
    | exact ⟨_, _, _, _, rfl, sl_of hbq SP.out, SQ.out, B4.out.trans (BQ.out.mono B4.out.size)⟩
    | exact ⟨_, _, _, _, rfl, SP.out, sl_of hbp SQ.out, B4.out.trans (BP.out.mono B4.out.size)⟩

set_option maxRecDepth 100000 in
set_option maxHeartbeats 2000000 in
theorem shim3_bad (A : Option Addr) (n c : Nat) (zs : List Int) (A' : Option Addr) (m c' : Nat) (ys : List Int) (w : World) (h : SlIn w w.heap.size A n c (zs.map (Value.int .i64))) (h' : SlIn w w.heap.size A' m c' (ys.map (Value.int .i64))) (hn : n ≤ 65536) (hm : m ≤ 65536) (st k : Int) (te : TypeId) (pe : Value) (hst : st < 0 ∨ (n : Int) < st ∨ k < 0) (hE : w.cell? ⟨1, 0, none⟩ = some (.iface te pe)) (hE0 : 1 < w.heap.size) :
    Calls Tryd.prog 7 #[.slice A n c, .int .i64 st, .int .i64 k, .slice A' m c'] w fun e w' => e = .returned (.tuple #[.slice none 0 0, .slice none 0 0, .bool false]) ∧ Below w.heap.size w w' := by
  obtain ⟨i, hi, hz0, hz1, hz2⟩ := info_parts info_obj
  have HL := hide (show zs.length = n by simpa using h.len)
  have HM := hide (show ys.length = m by simpa using h'.len)
  have HS := hide h
  have HT := hide h'
  have HE := hide hE
  have HST := hide hst
  clear h h' hE hst
  go_enter Tryd.func7, Tryd.ntmps7
  go_wp2_with fail
  refine (toObjs_any A n c zs w HS.out (by omega)).mono ?_
  rw [show (MadeObjs zs w) = (fun e w' => MadeObjs zs w e w') from rfl]
  rintro e w1 ⟨g, c1, vs, rfl, ho1, hv1, hb1⟩
  rw [HL.out] at ho1 ⊢
  have O1 := hide ho1
  have V1 := hide hv1
  have B1 := hide hb1
  clear ho1 hv1 hb1
  go_wp2_with fail
  have BW := hide (W2_below g n c1 st k B1.out)
  have T2 : Hid (SlIn (W2 w1 g n c1 st k) (W2 w1 g n c1 st k).heap.size A' m c' (ys.map (Value.int .i64))) := (HT.out.below BW.out (Nat.le_refl _)).mono BW.out.size
  refine (toObjs_any A' m c' ys (W2 w1 g n c1 st k) T2.out (by omega)).mono ?_
  rw [show (MadeObjs ys (W2 w1 g n c1 st k)) = (fun e w' => MadeObjs ys (W2 w1 g n c1 st k) e w') from rfl]
  rintro e w2 ⟨g2, c2, iv, rfl, ho2, hv2, hb2⟩
  rw [HM.out] at ho2 ⊢
  have O2 := hide ho2
  have V2 := hide hv2
  have B2 := hide hb2
  have R2 := hide (own_below (W2_own w1 g n c1 st k) hb2)
  have S2 := hide (SlIn.of_own ho2)
  have OI := hide hv2.ones
  have hsz : w1.heap.size + 1 + 1 + 1 ≤ w2.heap.size := by have := hb2.size; rw [W2_size] at this; omega
  clear ho2 hv2 hb2
  go_wp2_with (at_builtin; refine wpList_append_in _ rfl _ _ 31 31 rfl (w1.heap.size + 1 + 1 + 1) 41 41 i .nilIface 16 Tryd.underlying31 Tryd.underlying31 hi hz0 hz1 hz2 rfl _ 3 _ rfl R2.out w2.heap.size _ _ _ iv rfl S2.out OI.out (by unfold maxLen; omega) (by omega) hsz ?_; intro A3 c3 w3 hown hgrow; have RD := hide (ready O1.out V1.out B1.out B2.out V2.out hown hgrow); clear hown hgrow)
  refine (splice3_bad w1.heap.size n c1 g (w1.heap.size + 1) (w1.heap.size + 1 + 1) st k te pe A3 c3 m iv w3 RD.out.arr hm RD.out.args RD.out.one RD.out.two HST.out ((RD.out.bel.cell (p := ⟨1, 0, none⟩) hE0).trans HE.out)).mono ?_
  rintro e w4 ⟨rfl, hbel⟩
  have B4 : Hid (Below w.heap.size w w4) := RD.out.bel.trans (hbel.mono RD.out.bel.size)
  clear hbel
  go_wp2
  go_returns
  exact ⟨rfl, B4.out⟩
end Go.Proofs.YtdfjbegifibldaaDoor
