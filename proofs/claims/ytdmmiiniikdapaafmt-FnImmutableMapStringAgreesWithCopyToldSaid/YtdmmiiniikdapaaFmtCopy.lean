/- The copy of an immutable map of Ints: a map object in new memory; nothing that was there has turned. -/
import Derived.Test.YtdmmiiniikdapaaFmtTrack
namespace Go.Proofs.YtdmmiiniikdapaaFmt
open Go.RowKit

/-- A map object of the same keys and numbers comes back. -/
def NewMap (V : Vals) (w : World) (e : Ending) (w' : World) : Prop := ∃ ob bm n D, e = .returned (.iface 64 (.pointer (some ⟨ob, 0, none⟩))) ∧ IM w' ob bm n D V ∧ Below w.heap.size w w'

theorem invK (key : Value) (kl : Lit) (h : keyOf Tryf.prog 9 key = some kl) : ∃ x, key = encStr x := by
  obtain ⟨s, rfl, _⟩ := WideMaps.string_of_keyOf Tryf.underlying9 h
  exact ⟨s.data.toList, by simp [encStr]⟩

theorem keyX {x : List UInt8} {kl : Lit} (h : keyOf Tryf.prog 9 (encStr x) = some kl) : kl = .string x := by
  obtain ⟨s, hs, rfl, _⟩ := WideMaps.string_of_keyOf Tryf.underlying9 h
  simp [encStr] at hs
  rw [← hs]
theorem Blk.ne_iter {w : World} {P : Program} {k : TypeId} {R : Value → Option (DataW Unit × List MemPlace)} {b r n : Nat} {D : DataW Unit} {left : Lit → Bool} {cnt c : Nat} {cs : Array Value} {T : TypeId} (h : w.ranges P k R b r n D left cnt) (hb : Blk w c cs T) : c ≠ r := by
  rintro rfl
  obtain ⟨es, clock, since, seen, c0, _, _, _, _, hr, _⟩ := h
  unfold Blk at hb
  rw [hb] at hr
  cases hr
theorem Blk.ne_map {w : World} {P : Program} {k : TypeId} {R : Value → Option (DataW Unit × List MemPlace)} {b n : Nat} {D : DataW Unit} {c : Nat} {cs : Array Value} {T : TypeId} (h : w.ownsMap P k R b n D) (hb : Blk w c cs T) : c ≠ b := by
  rintro rfl
  obtain ⟨es, clock, hr, _⟩ := h
  unfold Blk at hb
  rw [hb] at hr
  cases hr
/-- Blocks of cells stay while an iterator alone turns. -/
theorem Cont.iter {w w' : World} {D Dc : DataW Unit} {V : Vals} {P : Program} {k : TypeId} {R : Value → Option (DataW Unit × List MemPlace)} {b r n : Nat} {left : Lit → Bool} {cnt : Nat} (h : Cont w Dc V) (hr : w.ranges P k R b r n D left cnt) (hg : w.grownBy w' (some r)) : Cont w' Dc V :=
  h.keep fun c _ hc => hc.of_eq (hg.block c hc.lt (fun e => by injection e with e; exact Blk.ne_iter hr hc e))

set_option maxHeartbeats 4000000 in
theorem copy_any (ob bm n : Nat) (D : DataW Unit) (V : Vals) (w : World) (h : IM w ob bm n D V) : Calls Tryf.prog 20 #[.pointer (some ⟨ob, 0, none⟩)] w (NewMap V w) := by
  have HI := hide h
  have c0 := h.obj
  have l0 := h.lt
  have hbm := h.map.lt
  have hle := h.le
  clear h
  have hmm := @run_makeMap Tryf.prog
  go_enter Tryf.func20, Tryf.ntmps20
  go_wp2_with (at_range; refine wpList_range_own _ rfl _ 40 rfl 9 47 law9 Tryf.underlying40 elemR bm n D rfl (HI.out.map.alloc _) ?_; intro w0 hrg0 hg0 hs0; have R0 := hide hrg0; have G0 := hide hg0; clear hrg0 hg0 hs0)
  go_frame
  have C0 : Hid (w0.ownsMap Tryf.prog 9 elemR w.heap.size 0 (.map [])) := (World.ownsMap_made w Tryf.prog 9 elemR).kept G0.out (by simp)
  have B0 : Hid (Below w.heap.size w w0) := ((Below.refl w.heap.size w).alloc (Nat.le_refl _) _).grown G0.out (by simp) (fun k hk => by cases hk)
  have hsz := HI.out.map.size_le
  have HR := hide (show (w.alloc (Obj.map #[] 0)).heap.size = w.heap.size + 1 by simp)
  generalize (w.alloc (Obj.map #[] 0)).heap.size = r at R0 HR ⊢
  go_loopw [12] (fun _ wr => ∃ (left : Lit → Bool) (cnt m : Nat) (Dc : DataW Unit) (ps : List (List UInt8)), m + cnt ≤ 4096 ∧ Hid (Track D left ps) ∧ Hid (Maps.IsMap Dc) ∧ Hid (Cont wr Dc (restr V ps)) ∧ Hid (wr.ranges Tryf.prog 9 elemR bm r n D left cnt) ∧ Hid (wr.ownsMap Tryf.prog 9 elemR w.heap.size m Dc) ∧ Hid (Below w.heap.size w wr)) (fun _ wr => wr.rangeLeft bm r)
  case atStart => exact ⟨Maps.has D, Maps.size D, 0, .map [], [], by omega, Track.start D, Maps.isMap_empty, by rw [restr_nil]; exact Cont.empty _, R0, C0, B0⟩
  case round =>
    obtain ⟨left, cnt, m, Dc, ps, hmc, TR, IsM, CO, R, C, B⟩ := hrel
    clear R0 G0 C0 B0 hsz
    go_wp2_with (at_next; refine wpList_next_ranges _ rfl _ rfl 9 law9 elemR encStr mkV invK (fun v y hv => elemR_inv hv) bm r n _ _ _ rfl R.out ?_ ?_)
    · intro hc0 hl0
      have HV : Hid (restr V ps = V) := restr_all fun l => by rw [TR.out.done hl0 l, HI.out.cont.has_iff l]
      clear hl0
      go_wp2
      go_ret
      exact ⟨_, _, _, _, rfl, ⟨(Blk.new wr _ _).at rfl, by simp, C.out.alloc _, by omega, by have := CO.out.keep (w' := wr.alloc (.cells #[.map (some w.heap.size)] 65)) (fun _ _ hb => hb.alloc _); rw [HV.out] at this; exact this⟩, B.out.alloc B.out.size _⟩
    · intro x c kl yd yp w1 cnt1 hkey hlk hv hat hrg1 hlt hg1 hs1 hen
      obtain rfl := keyX hkey
      have HY : Hid (yd = .lit (.int .i64 (c : Int))) := by
        rw [elemR_mk] at hv
        have := Option.some.inj hv
        exact ((Prod.mk.inj this).1).symm
      obtain ⟨x0, hVx, hx0⟩ := HI.out.cont.at (l := x) (fun z => (hat z).trans HY.out)
      have hcl := hx0.lt
      have HVX := hide hVx
      have B1 := hide (B.out.grown hg1 B.out.size (fun g hg => by cases hg; have := HR.out; omega))
      have K1 := hide (hx0.below B1.out hcl)
      have hci := K1.out.at (i := 0) (v := .int .i64 x0) rfl
      have CO1 := hide (CO.out.iter R.out hg1)
      have C1 := hide (C.out.kept hg1 (by intro e; injection e with e; have := HR.out; omega))
      have TR1 := hide (TR.out.step hlk)
      have R1 := hide hrg1
      have HK := hide hkey
      have hz1 := B1.out.size
      have hzr : r < w1.heap.size := R1.out.lt
      clear hkey hlk hv hat hrg1 hg1 hs1 hx0 hVx CO TR
      unfold mkV at hen ⊢
      go_wp2_with (first | (go_at_call 44; go_in) | (at_mapUpdate; refine wpList_mapUpdate_own _ rfl _ _ _ 40 rfl 9 47 law9 Tryf.underlying40 elemR w.heap.size m _ rfl (C1.out.alloc _) (by unfold maxLen; omega) _ _ _ rfl rfl HK.out _ [] (elemR_mk' _) ?_; intro w5 hown5 hgrow5; have C5 := hide hown5; have G5 := hide hgrow5; clear hown5 hgrow5))
      go_frame
      have CO5 : Hid (Cont w5 (Dc.put (.string x) (.lit (.int .i64 (w1.heap.size : Int)))) (restr V (ps ++ [x]))) := by
        have h2 : Cont (w1.alloc (.cells #[.int .i64 x0] 45)) Dc (restr V ps) := CO1.out.keep fun _ _ hb => hb.alloc _
        have h3 := h2.put (k := x) (b := w1.heap.size) (x := x0) IsM.out (Blk.new w1 _ _)
        rw [restr_put HVX.out] at h3
        exact h3.keep fun b z hb => hb.of_eq (G5.out.block b hb.lt (fun e => by
          injection e with e
          exact Blk.ne_map (C1.out.alloc (.cells #[.int .i64 x0] 45)) hb e))
      go_roundw
      case rel => exact ⟨_, cnt1, m + 1, _, ps ++ [x], by omega, TR1, hide (IsM.out.put _ _), CO5, hide ((R1.out.alloc _).kept G5.out (by intro e; injection e with e; omega) (by intro e; injection e with e; have := HR.out; omega)), C5, hide ((B1.out.alloc hz1 _).grown G5.out (by simp; omega) (fun g hg => by cases hg; exact Nat.le_refl _))⟩
      case measure =>
        have e1 := ((R1.out.alloc (.cells #[.int .i64 x0] 45)).kept G5.out (by intro e; injection e with e; omega) (by intro e; injection e with e; have := HR.out; omega)).left_eq
        rw [e1, R.out.left_eq]
        exact hlt
end Go.Proofs.YtdmmiiniikdapaaFmt
