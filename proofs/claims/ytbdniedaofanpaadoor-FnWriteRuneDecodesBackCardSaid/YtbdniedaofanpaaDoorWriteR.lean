/- The contract of fmtbuf.WriteRune: behind the call the buffer owns what it owned and, behind that, the rune's bytes. Conditions: the buffer is a row of the caller's own; its length is at most 2^30. -/
import Derived.Test.YtbdniedaofanpaaDoorHolds
import Derived.Test.YtbdniedaofanpaaDoorRune
import Derived.Maps.AppendAt
namespace Go.Proofs.YtbdniedaofanpaaDoor
open Go.RowKit

theorem wpList_append_at {P : Program} (w : World) {ops : Array Oper} {rest : List Oper} {o : Oper} {a : Act} {Q : Exit → Act → World → Prop} (hgd : o.guard = none) (s x : Operand) (t : TypeId)
    (ho : o.op = .call { callee := .builtin .append, args := #[s, x], argTypes := #[t, t] })
    (base : Nat) (e : TypeId) (i : TypeInfo) (z : Value) (bytes : Nat) (ht : P.underlying t = some (.slice e)) (hi : P.info? e = some i) (hz : i.zero = some z)
    (hsize : i.size = 1) (hby : i.bytes = bytes) (hzs : z.cells.size = 1)
    (v : Value) (n : Nat) (xs : List Value) (hs : a.eval s = v) (hown : w.ownsRow base e 1 v n xs) (ad : Addr) (m c : Nat) (news : List Value) (hx : a.eval x = .slice (some ad) m c) (hl : news.length = m * 1) (hnews : ∀ j u, news[j]? = some u → w.cell? (ad.add j) = some u) (h1 : ∀ u ∈ news, u.oneCell' = true)
    (h63 : n + m ≤ maxLen) (hbytes : (n + m) * bytes ≤ 140737488355328) (hbase : base ≤ w.heap.size)
    (h : ∀ A' c' w', w'.ownsRow base e 1 (.slice A' (n + m) c') (n + m) (xs ++ news) → w.grownBy w' v.ownBlock → (Value.ownBlock (.slice A' (n + m) c') = v.ownBlock ∨ Value.ownBlock (.slice A' (n + m) c') = some w.heap.size) → wpList P ops Q rest (a.put o.dst (.slice A' (n + m) c')) w') : wpList P ops Q (o :: rest) a w := by
  refine wpList_plain hgd fun K hK => ?_
  obtain ⟨v', w', hr, h2, h3, _, h5⟩ := run_append_own_at (P := P) w base t o.type e i z 1 bytes ht hi hz hsize hby hzs (by decide) v n xs hown ad m c news hl hnews h1 h63 hbytes hbase
  obtain ⟨A', c', rfl⟩ := own_form h2
  unfold Oper.wp execOp
  simp only [ho, resolve, invoke, builtin, Sem.run_bind, Sem.run_pure, Result.andThen_ok, List.map_toArray, List.map_cons, List.map_nil, hs, hx, hr]
  exact hK _ _ (h A' c' w' h2 h3 h5)

/-- A slice value's length. -/
def lenV : Value → Nat
  | .slice _ n _ => n
  | _ => 0

/-- Where the row lies while it grows: the old row, or new memory. -/
def Lies (B : Nat) (row : Option Nat) (v : Value) : Prop := v.ownBlock = row ∨ ∃ g, v.ownBlock = some g ∧ B ≤ g

theorem grow_step {w wr w1 : World} {base E n m : Nat} {v v' : Value} {row : Option Nat} {o : Obj} {xs : List Value} (hg : w.grownBy wr row) (hl : Lies w.heap.size row v) (h1 : (wr.alloc o).grownBy w1 v.ownBlock)
    (hat : v'.ownBlock = v.ownBlock ∨ v'.ownBlock = some (wr.alloc o).heap.size) (_ : wr.ownsRow base E n v m xs) : w.grownBy w1 row ∧ Lies w.heap.size row v' := by
  refine ⟨⟨h1.os.trans hg.os, h1.tape.trans hg.tape, h1.output.trans hg.output, Nat.le_trans hg.size (Nat.le_trans (by simp) h1.size), fun k hk hne => ?_⟩, ?_⟩
  · have hk1 : k < wr.heap.size := Nat.lt_of_lt_of_le hk hg.size
    refine ((h1.block k (by simp; omega) ?_).trans (heap_alloc_old wr o hk1)).trans (hg.block k hk hne)
    rcases hl with hl | ⟨g, hl, hB⟩
    · rw [hl]; exact hne
    · rw [hl]; intro e; simp at e; omega
  · rcases hat with hat | hat
    · rcases hl with hl | ⟨g, hl, hB⟩
      · exact .inl (hat.trans hl)
      · exact .inr ⟨g, hat.trans hl, hB⟩
    · exact .inr ⟨_, hat, Nat.le_trans hg.size (by simp)⟩

theorem one_news (w : World) (v : Value) (t : TypeId) : ∀ j u, [v][j]? = some u → (w.alloc (.cells #[v] t)).cell? ((⟨w.heap.size, 0, none⟩ : Addr).add j) = some u := by
  intro j u hj
  match j, hj with
  | 0, hj => simp at hj; subst hj; simp [Addr.add]
theorem one_int (x : Int) : ∀ u ∈ [Value.int .u8 x], u.oneCell' = true := by
  intro u hu; simp at hu; subst hu; rfl

/-- What the stores of the rune's bytes and of the header leave. -/
theorem rune_stored {w wr : World} {base E T pb n m g cap : Nat} {u : Value} {row : Option Nat} {xs ys L : List Value} (hT : ¬ E = T) (hbox : w.heap[pb]? = some (.cells #[u] T (0, 0))) (hg : w.grownBy wr row) (hr : some pb ≠ row)
    (hl : Lies w.heap.size row (.slice (some ⟨g, 0, none⟩) m cap)) (hown : wr.ownsRow base E 1 (.slice (some ⟨g, 0, none⟩) m cap) m ys) (hn : n ≤ m) (hx : ys.take n = xs) (hL : n + L.length ≤ cap) :
    (setL wr g n L).cell? ⟨pb, 0, none⟩ = some u ∧ (setL wr g n L).frozen? ⟨pb, 0, none⟩ = false ∧
    Holds base E T pb (n + L.length) (xs ++ L) ((setL wr g n L).setCell ⟨pb, 0, none⟩ (.slice (some ⟨g, 0, none⟩) (n + L.length) cap)) ∧
    Only pb row w ((setL wr g n L).setCell ⟨pb, 0, none⟩ (.slice (some ⟨g, 0, none⟩) (n + L.length) cap)) := by
  have hlt : pb < w.heap.size := (Array.getElem?_eq_some_iff.1 hbox).1
  have hb1 : wr.heap[pb]? = some (.cells #[u] T (0, 0)) := (hg.block pb hlt hr).trans hbox
  have hne : ¬ pb = g := fun e => own_ne_box hT hb1 hown (by rw [e]; rfl)
  have hb2 : (setL wr g n L).heap[pb]? = some (.cells #[u] T (0, 0)) := (setL_other L hne).trans hb1
  have ho2 : (setL wr g n L).ownsRow base E 1 (.slice (some ⟨g, 0, none⟩) (n + L.length) cap) (n + L.length) (xs ++ L) := by
    have := own_setL L (own_shrink hown hn) hL
    rw [hx] at this
    exact this
  have hrest := setL_rest (g := g) L (w := wr) (n := n)
  refine ⟨cell_of_one hb2, free_of_one hb2, ⟨some ⟨g, 0, none⟩, cap, ?_, ?_⟩, ⟨hrest.1.trans hg.os, hrest.2.1.trans hg.tape, hrest.2.2.trans hg.output, ?_, fun k hk hkp hkr => ?_⟩⟩
  · have := heap_setCell_same (setL wr g n L) pb 0 #[u] T (.slice (some ⟨g, 0, none⟩) (n + L.length) cap) hb2
    simpa using this
  · refine ho2.kept (row := some pb) ⟨rfl, rfl, rfl, by simp, fun k _ hk => heap_setCell_other _ ⟨pb, 0, none⟩ k _ (fun e => hk (by simp [e]))⟩ (.inr ?_)
    exact fun e => own_ne_box hT hb2 ho2 e.symm
  · have := setL_size (g := g) L (w := wr) (n := n)
    have := hg.size
    simp [World.setCell]; omega
  · refine (heap_setCell_other _ ⟨pb, 0, none⟩ k _ hkp).trans ?_
    have hkg : ¬ k = g := fun e => by
      rcases hl with hl | ⟨g', hl, hB⟩
      · exact hkr (by rw [← hl, e]; rfl)
      · simp [Value.ownBlock] at hl; omega
    exact (setL_other L hkg).trans (hg.block k hk hkr)

set_option maxHeartbeats 2000000 in
theorem writeRune_any (pb base : Nat) (A : Option Addr) (n c : Nat) (xs : List Value) (r : Int) (w : World) (hbox : w.heap[pb]? = some (.cells #[.slice A n c] 35 (0, 0))) (hown : w.ownsRow base 5 1 (.slice A n c) n xs) (hbase : base ≤ w.heap.size)
    (hM : w.cell? ⟨0, 0, none⟩ = some (.int .i64 2147483647)) (hlen : n ≤ 1073741824) (h0 : -2147483648 ≤ r) (h1 : r ≤ 2147483647) :
    Calls Tryd.prog 18 #[.pointer (some ⟨pb, 0, none⟩), .int .i32 r] w (Wrote base 5 35 pb (n + (enc r).length) (Value.ownBlock (.slice A n c)) (xs ++ encV r) w) := by
  obtain ⟨i, hi, hz0, hz1, hz2⟩ := info_parts info_u8
  have hlt : pb < w.heap.size := (Array.getElem?_eq_some_iff.1 hbox).1
  have hcell := cell_of_one hbox
  have HB := hide hbox
  have HO := hide hown
  have hcap := (SlIn.of_own hown).le
  have htop := (SlIn.of_own hown).top
  unfold maxLen at htop
  clear hbox hown
  obtain ⟨b1, b2⟩ := rlen_bd r
  have hsum : IntKind.i64.wrap ((n : Int) + rlen r) = (n : Int) + rlen r := IntWalk.i64_in _ (by omega)
  have hd : decide ((2147483647 : Int) < (n : Int) + rlen r) = false := by simp; omega
  by_cases hr : r < 128
  · have HE : Hid (enc r = [r % 256]) := by show enc r = _; unfold enc; rw [if_pos hr]
    obtain ⟨y, hy⟩ : ∃ y : UInt8, r % 256 = (y.toNat : Int) := ⟨UInt8.ofNat (r % 256).toNat, by rw [UInt8.toNat_ofNat']; omega⟩
    have HY := hide hy
    clear hy
    go_enter Tryd.func18, Tryd.ntmps18
    go_wp2_with fail
    go_quiet ((go_at_call 21; exact Calls.quiet_of_same (runeLen_any r _ h0 h1)))
    clear hsum
    go_wp2_with (at_builtin; refine wpList_append_at _ rfl _ _ 35 rfl base 5 i (.int .u8 0) 1 Tryd.underlying35 hi hz0 hz1 hz2 rfl _ n xs rfl (HO.out.alloc _) ⟨w.heap.size, 0, none⟩ 1 1 [.int .u8 (r % 256)] rfl rfl (one_news w _ _) (one_int _) (by unfold maxLen; omega) (by omega) (by simp; omega) ?_; intro A1 c1 w1 hown1 hgrow1 hat1; have R := box_stored (w := w.alloc (.cells #[.int .u8 (r % 256)] 5)) (by decide) ((heap_alloc_old w _ hlt).trans HB.out) (HO.out.alloc _) (show (w.alloc (.cells #[.int .u8 (r % 256)] 5)).grownBy w1 _ from ⟨hgrow1.os, hgrow1.tape, hgrow1.output, hgrow1.size, hgrow1.block⟩) hown1; have r1 := R.1; have r2 := R.2.1; have HR := hide R.2.2; clear R hown1 hgrow1 hat1)
    refine bodyPost_ret (results_none rfl _ _ _) rfl ?_
    unfold encV
    rw [HE.out]
    exact ⟨rfl, HR.out.1, Only.ahead HR.out.2⟩
  · obtain ⟨m, hm⟩ : ∃ m, (enc r).length = m := ⟨_, rfl⟩
    obtain ⟨L, hL⟩ : ∃ L, encV r = L := ⟨_, rfl⟩
    have hLm : L.length = m := by rw [← hL, encV_len, hm]
    have hm4 : m ≤ 4 := by have := (enc_len r).2; omega
    have HL := hide hL
    have HM2 := hide hm
    have HLm := hide hLm
    rw [hm, hL]
    clear hL hm hLm
    have HLI : Hid (Lies w.heap.size (Value.ownBlock (.slice A n c)) (.slice A (n + 0) c)) := .inl (by cases A <;> rfl)
    have HO0 : Hid (w.ownsRow base 5 1 (.slice A (n + 0) c) (n + 0) (xs ++ List.replicate 0 (.int .u8 0))) := by
      show w.ownsRow _ _ _ _ _ _
      simpa using HO.out
    have HXS : Hid (xs.length = n) := by have := HO.out.1; show xs.length = n; omega
    go_enter Tryd.func18, Tryd.ntmps18
    go_wp2_with fail
    go_quiet ((go_at_call 21; exact Calls.quiet_of_same (runeLen_any r _ h0 h1)))
    clear hsum
    go_wp2_with fail
    go_loopw [4] (fun v wr => ∃ j : Nat, j ≤ 4 ∧ ∃ A' c', v = .slice A' (n + j) c' ∧ Hid (wr.ownsRow base 5 1 (.slice A' (n + j) c') (n + j) (xs ++ List.replicate j (.int .u8 0))) ∧ Hid (w.grownBy wr (Value.ownBlock (.slice A n c))) ∧ Hid (Lies w.heap.size (Value.ownBlock (.slice A n c)) (.slice A' (n + j) c'))) (fun v _ => n + 4 - lenV v)
    case atStart => exact ⟨0, by omega, A, c, rfl, HO0, ⟨rfl, rfl, rfl, Nat.le_refl _, fun _ _ _ => rfl⟩, HLI⟩
    case round =>
      obtain ⟨j, hj, A', c', rfl, HOr, HG, HLr⟩ := hrel
      clear HLI HO0
      have hcap' := (SlIn.of_own HOr.out).le
      have htop' := (SlIn.of_own HOr.out).top
      unfold maxLen at htop'
      have hsz := HG.out.size
      by_cases hc : n + 4 ≤ c'
      · have HA : Hid (∃ g, A' = some ⟨g, 0, none⟩) := by
          rcases HOr.out.2 with ⟨h', _⟩ | ⟨g, cap, cur, h', _⟩
          · simp only [Value.slice.injEq] at h'
            omega
          · simp only [Value.slice.injEq] at h'
            exact ⟨g, h'.1⟩
        obtain ⟨g, rfl⟩ := HA.out
        obtain ⟨⟨u0, c0⟩, f0⟩ := own_spare HOr.out (k := n) (by omega)
        obtain ⟨⟨u1, c1⟩, f1⟩ := own_spare HOr.out (k := n + 1) (by omega)
        obtain ⟨⟨u2, c2⟩, f2⟩ := own_spare HOr.out (k := n + 2) (by omega)
        obtain ⟨⟨u3, c3⟩, f3⟩ := own_spare HOr.out (k := n + 3) (by omega)
        have R := rune_stored (L := L) (xs := xs) (n := n) (by decide) HB.out HG.out (own_ne_box (by decide) HB.out HO.out) HLr.out HOr.out (Nat.le_add_right _ _) (List.take_left' HXS.out) (by rw [HLm.out]; omega)
        rw [HLm.out] at R
        have r1 := R.1
        have r2 := R.2.1
        have HR := hide R.2.2
        have E := hide (encode_any g n (c' - n) u0 u1 u2 u3 r wr (by omega) h1 c0 c1 c2 c3 f0 f1 f2 f3)
        rw [HM2.out, HL.out] at E
        clear R c0 c1 c2 c3 f0 f1 f2 f3 HA
        go_wp2_with fail
        refine E.out.mono ?_
        rintro e w2 ⟨rfl, rfl⟩
        go_wp2
        go_end0
        exact ⟨rfl, HR.out.1, HR.out.2⟩
      · have hj4 : j < 4 := by omega
        go_wp2_with (at_builtin; refine wpList_append_at _ rfl _ _ 35 rfl base 5 i (.int .u8 0) 1 Tryd.underlying35 hi hz0 hz1 hz2 rfl _ (n + j) (xs ++ List.replicate j (.int .u8 0)) rfl (HOr.out.alloc _) ⟨wr.heap.size, 0, none⟩ 1 1 [.int .u8 0] rfl rfl (one_news wr _ _) (one_int _) (by unfold maxLen; omega) (by omega) (by simp; omega) ?_; intro A1 c1 w1 hown1 hgrow1 hat1; have R := hide (grow_step HG.out HLr.out hgrow1 hat1 HOr.out); have HO1 := hide hown1; clear hown1 hgrow1 hat1)
        go_roundw
        case rel => exact ⟨j + 1, by omega, A1, c1, rfl, (by have := HO1.out; rw [List.append_assoc, ← List.replicate_succ'] at this; exact this), R.out.1, R.out.2⟩
        case measure => simp [lenV]; omega
end Go.Proofs.YtbdniedaofanpaaDoor
